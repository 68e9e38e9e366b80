-- Written by a working copy of the kit's print program, turned at a few places by wip/tool/mkprint.py. Lean checks it.
import Derived.Test.YtdliagehkiihpaaGreatDoorQWx0
import Derived.Test.YtdliagehkiihpaaGreatDoorQWx2
import Derived.Test.YtdliagehkiihpaaGreatDoorQWx3
namespace Go.Proofs.YtdliagehkiihpaaGreatDoor.QW
open Go.RowKit Go.Proofs.YtdliagehkiihpaaGreatDoorW.PrintWords Go.Proofs.YtdliagehkiihpaaGreatDoorW.PrintLast Go.Proofs.YtdliagehkiihpaaGreatDoorW.PrintMore
attribute [local go_sem] max2_int min2_int max_two min_two max_three min_three max_four min_four   -- for this text's walks alone
set_option linter.unusedVariables false
set_option linter.unusedSimpArgs false

/-! ### spec_intOrder: function 79 -/
mutual
def spec_intOrder.j2 : Nat → Bool → ByteArray → Bool → ByteArray → Option (Int)
  | 0, _, _, _, _ => none
  | k + 1, x174000, x174001, x175000, x175001 => if (x174001.size : Int) = (x175001.size : Int) then ((Giv.spec_order.f x174001 x175001).bind fun t179 => (some t179)) else ((spec_orderInts.f (x174001.size : Int) (x175001.size : Int)).bind fun t180 => (some t180))
def spec_intOrder.j0 : Nat → Bool → Bool → ByteArray → Bool → ByteArray → Option (Int)
  | 0, _, _, _, _, _ => none
  | k + 1, x9, x174000, x174001, x175000, x175001 => if x9 = true then (some (-1)) else (if x174000 = true then (spec_intOrder.j1 k false x174000 x174001 x175000 x175001) else (spec_intOrder.j1 k x175000 x174000 x174001 x175000 x175001))
def spec_intOrder.j1 : Nat → Bool → Bool → ByteArray → Bool → ByteArray → Option (Int)
  | 0, _, _, _, _, _ => none
  | k + 1, x17, x174000, x174001, x175000, x175001 => if x17 = true then (some 1) else (if x174000 = true then (spec_intOrder.j2 k x175000 x175001 x174000 x174001) else (spec_intOrder.j2 k x174000 x174001 x175000 x175001))
end
def spec_intOrder.f (k : Nat) (a0_0 : Bool) (a0_1 : ByteArray) (a1_0 : Bool) (a1_1 : ByteArray) : Option (Int) := (spec_numTidy.f k a0_0 a0_1).bind fun bt175 => ((spec_numTidy.f k a1_0 a1_1).bind fun bt177 => (if bt175.1 = true then (spec_intOrder.j0 k (!bt177.1) bt175.1 bt175.2 bt177.1 bt177.2) else (spec_intOrder.j0 k false bt175.1 bt175.2 bt177.1 bt177.2)))
theorem spec_intOrder.mono_l : ∀ k, (∀ y0 y1 y2 y3, LeO (spec_intOrder.j2 k y0 y1 y2 y3) (spec_intOrder.j2 (k + 1) y0 y1 y2 y3)) ∧ (∀ y0 y1 y2 y3 y4, LeO (spec_intOrder.j0 k y0 y1 y2 y3 y4) (spec_intOrder.j0 (k + 1) y0 y1 y2 y3 y4)) ∧ (∀ y0 y1 y2 y3 y4, LeO (spec_intOrder.j1 k y0 y1 y2 y3 y4) (spec_intOrder.j1 (k + 1) y0 y1 y2 y3 y4))
  | 0 => ⟨fun _ _ _ _ r h => by simp [spec_intOrder.j2] at h, fun _ _ _ _ _ r h => by simp [spec_intOrder.j0] at h, fun _ _ _ _ _ r h => by simp [spec_intOrder.j1] at h⟩
  | k + 1 => by
    obtain ⟨ih0, ih1, ih2⟩ := spec_intOrder.mono_l k
    refine ⟨?_, ?_, ?_⟩
    · intro y0 y1 y2 y3
      unfold spec_intOrder.j2
      repeat' first
      | (with_reducible exact ih0 _ _ _ _)
      | (with_reducible exact ih1 _ _ _ _ _)
      | (with_reducible exact ih2 _ _ _ _ _)
      | (with_reducible exact spec_numTidy.mono _ _ _)
      | (with_reducible exact LeO.refl _)
      | (with_reducible exact LeO.none _)
      | (with_reducible refine LeO.ite ?_ ?_)
      | (with_reducible refine LeO.bind ?_ (fun _ => ?_))
      | exact ih0 _ _ _ _
      | exact ih1 _ _ _ _ _
      | exact ih2 _ _ _ _ _
      | exact spec_numTidy.mono _ _ _
      | exact LeO.none _
      | refine LeO.ite ?_ ?_
      | refine LeO.bind ?_ (fun _ => ?_)
    · intro y0 y1 y2 y3 y4
      unfold spec_intOrder.j0
      repeat' first
      | (with_reducible exact ih0 _ _ _ _)
      | (with_reducible exact ih1 _ _ _ _ _)
      | (with_reducible exact ih2 _ _ _ _ _)
      | (with_reducible exact spec_numTidy.mono _ _ _)
      | (with_reducible exact LeO.refl _)
      | (with_reducible exact LeO.none _)
      | (with_reducible refine LeO.ite ?_ ?_)
      | (with_reducible refine LeO.bind ?_ (fun _ => ?_))
      | exact ih0 _ _ _ _
      | exact ih1 _ _ _ _ _
      | exact ih2 _ _ _ _ _
      | exact spec_numTidy.mono _ _ _
      | exact LeO.none _
      | refine LeO.ite ?_ ?_
      | refine LeO.bind ?_ (fun _ => ?_)
    · intro y0 y1 y2 y3 y4
      unfold spec_intOrder.j1
      repeat' first
      | (with_reducible exact ih0 _ _ _ _)
      | (with_reducible exact ih1 _ _ _ _ _)
      | (with_reducible exact ih2 _ _ _ _ _)
      | (with_reducible exact spec_numTidy.mono _ _ _)
      | (with_reducible exact LeO.refl _)
      | (with_reducible exact LeO.none _)
      | (with_reducible refine LeO.ite ?_ ?_)
      | (with_reducible refine LeO.bind ?_ (fun _ => ?_))
      | exact ih0 _ _ _ _
      | exact ih1 _ _ _ _ _
      | exact ih2 _ _ _ _ _
      | exact spec_numTidy.mono _ _ _
      | exact LeO.none _
      | refine LeO.ite ?_ ?_
      | refine LeO.bind ?_ (fun _ => ?_)
theorem spec_intOrder.mono : ∀ a0 a1 a2 a3 k, LeO (spec_intOrder.f k a0 a1 a2 a3) (spec_intOrder.f (k + 1) a0 a1 a2 a3) := by
  intro a0 a1 a2 a3 k
  obtain ⟨ih0, ih1, ih2⟩ := spec_intOrder.mono_l k
  unfold spec_intOrder.f
  repeat' first
      | (with_reducible exact ih0 _ _ _ _)
      | (with_reducible exact ih1 _ _ _ _ _)
      | (with_reducible exact ih2 _ _ _ _ _)
      | (with_reducible exact spec_numTidy.mono _ _ _)
      | (with_reducible exact LeO.refl _)
      | (with_reducible exact LeO.none _)
      | (with_reducible refine LeO.ite ?_ ?_)
      | (with_reducible refine LeO.bind ?_ (fun _ => ?_))
      | exact ih0 _ _ _ _
      | exact ih1 _ _ _ _ _
      | exact ih2 _ _ _ _ _
      | exact spec_numTidy.mono _ _ _
      | exact LeO.none _
      | refine LeO.ite ?_ ?_
      | refine LeO.bind ?_ (fun _ => ?_)
set_option maxHeartbeats 8000000 in
set_option maxRecDepth 100000 in
theorem spec_intOrder.calls (k : Nat) (a0_0 : Bool) (a0_1 : ByteArray) (a1_0 : Bool) (a1_1 : ByteArray) (r : Int) (w : World) (h : spec_intOrder.f k a0_0 a0_1 a1_0 a1_1 = some r) :
    Calls Tryz.prog 79 #[.agg #[.bool a0_0, .string a0_1], .agg #[.bool a1_0, .string a1_1]] w fun e w' => e = .returned (.int .i64 r) ∧ Below w.heap.size w w' := by
  have hu64 := Tryz.underlying64
  have HB := Aside0.mk (Below.refl w.heap.size w)
  have H : ((spec_numTidy.f k a0_0 a0_1).bind fun bt175 => ((spec_numTidy.f k a1_0 a1_1).bind fun bt177 => (if bt175.1 = true then (spec_intOrder.j0 k (!bt177.1) bt175.1 bt175.2 bt177.1 bt177.2) else (spec_intOrder.j0 k false bt175.1 bt175.2 bt177.1 bt177.2)))) = some r := h
  clear h
  replace H := Option.bind_eq_some_iff.mp H
  obtain ⟨⟨t175, t176⟩, A30, H⟩ := H
  replace H : ((spec_numTidy.f k a1_0 a1_1).bind fun bt177 => (if t175 = true then (spec_intOrder.j0 k (!bt177.1) t175 t176 bt177.1 bt177.2) else (spec_intOrder.j0 k false t175 t176 bt177.1 bt177.2))) = some r := H
  have A3 := Aside0.mk A30
  clear A30
  replace H := Option.bind_eq_some_iff.mp H
  obtain ⟨⟨t177, t178⟩, A40, H⟩ := H
  replace H : (if t175 = true then (spec_intOrder.j0 k (!t177) t175 t176 t177 t178) else (spec_intOrder.j0 k false t175 t176 t177 t178)) = some r := H
  have A4 := Aside0.mk A40
  clear A40
  have HC5 := Aside0.mk H
  clear H
  go_enter Tryz.func79, Tryz.ntmps79
  try go_wp2_with (first | ((with_reducible refine gate_dst (N := 2) rfl ?_); refine box_event ?hg (N := 2) ?hd (cs := #[.bool a0_0, .string a0_1]) (t := 64) ?hr ?_; (case hd => rfl); (case hg => rfl); (case hr => first | (go_simp; done) | (go_simp; rfl)); intro gb173 hg w6 hbox hb; have n0_ := Aside0.mk (below_step (by repeat (first | (with_reducible first | exact HB.out | apply below_alloc | apply pw_below_drewN | apply below_drew1) | exact HB.out)) hb); have n1_ := Aside0.mk (hbox); have n2_ := Aside0.mk ((by rw [hg]; exact (below_size (by repeat (first | (with_reducible first | exact HB.out | apply below_alloc | apply pw_below_drewN | apply below_drew1) | exact HB.out))) : w.heap.size ≤ gb173)); have n3_ := Aside0.mk ((by rw [hg]; exact (below_size (by repeat (first | (with_reducible first | exact HB.out | apply below_alloc | apply pw_below_drewN | apply below_drew1) | exact HB.out))) : w.heap.size ≤ gb173)); clear HB; have HB := n0_; have BK173 := n1_; have GW173 := n2_; have GE173 := n3_; clear n0_ n1_ n2_ n3_; clear hb hbox hg) | ((with_reducible refine gate_dst (N := 3) rfl ?_); refine box_event ?hg (N := 3) ?hd (cs := #[.bool a1_0, .string a1_1]) (t := 64) ?hr ?_; (case hd => rfl); (case hg => rfl); (case hr => first | (go_simp; done) | (go_simp; rfl)); intro gb174 hg w7 hbox hb; have n0_ := Aside0.mk (blk_below (g := gb173) (o := .cells #[.bool a0_0, .string a0_1] 64 (0, 0)) (by (with_reducible repeat (first | refine blk_drewN ?_ _ | refine blk_drew ?_ | refine blk_alloc ?_ _)); exact BK173.out) hb); have n1_ := Aside0.mk (below_step (by repeat (first | (with_reducible first | exact HB.out | apply below_alloc | apply pw_below_drewN | apply below_drew1 | refine below_set ?_ GE173.out) | exact HB.out)) hb); have n2_ := Aside0.mk (hbox); have n3_ := Aside0.mk ((by rw [hg]; exact (below_size (by repeat (first | (with_reducible first | exact HB.out | apply below_alloc | apply pw_below_drewN | apply below_drew1 | refine below_set ?_ GE173.out) | exact HB.out))) : w.heap.size ≤ gb174)); have n4_ := Aside0.mk ((by rw [hg]; exact (below_size (by repeat (first | (with_reducible first | exact HB.out | apply below_alloc | apply pw_below_drewN | apply below_drew1 | refine below_set ?_ GE173.out) | exact HB.out))) : w.heap.size ≤ gb174)); have n5_ := Aside0.mk ((by rw [hg]; exact Nat.ne_of_lt (blk_lt (g := gb173) (o := .cells #[.bool a0_0, .string a0_1] 64 (0, 0)) (by (with_reducible repeat (first | refine blk_drewN ?_ _ | refine blk_drew ?_ | refine blk_alloc ?_ _)); exact BK173.out)) : gb173 ≠ gb174)); have n6_ := Aside0.mk ((by rw [hg]; exact Nat.ne_of_gt (blk_lt (g := gb173) (o := .cells #[.bool a0_0, .string a0_1] 64 (0, 0)) (by (with_reducible repeat (first | refine blk_drewN ?_ _ | refine blk_drew ?_ | refine blk_alloc ?_ _)); exact BK173.out)) : gb174 ≠ gb173)); clear BK173; clear HB; have BK173 := n0_; have HB := n1_; have BK174 := n2_; have GW174 := n3_; have GE174 := n4_; have NB173_174 := n5_; have NB174_173 := n6_; clear n0_ n1_ n2_ n3_ n4_ n5_ n6_; clear hb hbox hg))
  have n0_ := Aside0.mk (blk_drew BK173.out)
  have n1_ := Aside0.mk (blk_drew BK174.out)
  have n2_ := Aside0.mk (below_drew1 HB.out)
  clear BK173
  clear BK174
  clear HB
  have BK173 := n0_
  have BK174 := n1_
  have HB := n2_
  clear n0_ n1_ n2_
  refine start_ (n := 6) (S := fun w' => w'.cell? ⟨gb173, 0, none⟩ = some (.bool a0_0) ∧ w'.cell? ⟨gb173, 1, none⟩ = some (.string a0_1) ∧ w'.cell? ⟨gb174, 0, none⟩ = some (.bool a1_0) ∧ w'.cell? ⟨gb174, 1, none⟩ = some (.string a1_1)) (ds := [4, 5]) #[false, false, false, false, false, false] (by kernel_rfl) rfl rfl ⟨(blk_cell BK173.out 0).trans rfl, (blk_cell BK173.out 1).trans rfl, (blk_cell BK174.out 0).trans rfl, (blk_cell BK174.out 1).trans rfl⟩ (fun hHeld => ?_)
  generalize w7.drew = w8 at BK173 BK174 HB hHeld ⊢
  refine take_ (i := 0) (N := some 5) (v := ?_) (a' := ?_) #[true, false, false, false, false, false] rfl rfl (by kernel_rfl) (fun _ _ _ h => h) (Or.inl ⟨by rfl, ?_⟩) hHeld ?_ ?_
  rotate_left
  · rintro w' ⟨s0, s1, s2, s3⟩
    go_simp
    with_reducible rfl
  rotate_left
  · simp only [Act.put, List.setIfInBounds_toArray, List.set_cons_zero, List.set_cons_succ, i64_w, i32_w]
    rfl
  refine take_ (i := 2) (N := some 7) (v := ?_) (a' := ?_) #[true, false, true, false, false, false] rfl rfl (by kernel_rfl) (fun _ _ _ h => h) (Or.inl ⟨by rfl, ?_⟩) hHeld ?_ ?_
  rotate_left
  · rintro w' ⟨s0, s1, s2, s3⟩
    go_simp
    with_reducible rfl
  rotate_left
  · simp only [Act.put, List.setIfInBounds_toArray, List.set_cons_zero, List.set_cons_succ, i64_w, i32_w]
    rfl
  refine one_ (i := 1) (N := some 6) #[true, true, true, false, false, false] rfl rfl (by kernel_rfl) (by decide) (fun K hK => ?_)
  refine goes_ Tryz.func77 (by kernel_rfl) rfl #[.agg #[.bool a0_0, .string a0_1]] (by rfl) rfl rfl (by (try simp only [List.map_toArray, List.map_cons, List.map_nil]); first | done | rfl | (simp only [List.length_drop, List.length_take]; rfl)) ?_
  with_reducible refine (spec_numTidy.calls k a0_0 a0_1 t175 t176 _ A3.out).mono ?_
  rintro e w9 ⟨rfl, hb⟩
  refine ⟨_, rfl, ?_⟩
  have n0_ := Aside0.mk (blk_below (g := gb173) (o := .cells #[.bool a0_0, .string a0_1] 64 (0, 0)) (by (with_reducible repeat (first | refine blk_drewN ?_ _ | refine blk_drew ?_ | refine blk_alloc ?_ _)); exact BK173.out) hb)
  have n1_ := Aside0.mk (blk_below (g := gb174) (o := .cells #[.bool a1_0, .string a1_1] 64 (0, 0)) (by (with_reducible repeat (first | refine blk_drewN ?_ _ | refine blk_drew ?_ | refine blk_alloc ?_ _)); exact BK174.out) hb)
  have n2_ := Aside0.mk (below_step (by repeat (first | (with_reducible first | exact HB.out | apply below_alloc | apply pw_below_drewN | apply below_drew1 | refine below_set ?_ GE173.out | refine below_set ?_ GE174.out) | exact HB.out)) hb)
  clear BK173
  clear BK174
  clear HB
  have BK173 := n0_
  have BK174 := n1_
  have HB := n2_
  clear n0_ n1_ n2_
  (try clear hb)
  (try clear hb2)
  (try clear hk)
  (try clear hi)
  refine hK.out _ _ ⟨(blk_cell BK173.out 0).trans rfl, (blk_cell BK173.out 1).trans rfl, (blk_cell BK174.out 0).trans rfl, (blk_cell BK174.out 1).trans rfl⟩ (fun hHeld => ?_)
  clear hK K
  refine norm_ (a' := ?_) ?_ ?_
  rotate_left
  · show Act.put _ (some 6) _ = _
    simp only [Act.put, List.setIfInBounds_toArray, List.set_cons_zero, List.set_cons_succ, i64_w, i32_w]
    rfl
  refine one_ (i := 3) (N := some 8) #[true, true, true, true, false, false] rfl rfl (by kernel_rfl) (by decide) (fun K hK => ?_)
  refine goes_ Tryz.func77 (by kernel_rfl) rfl #[.agg #[.bool a1_0, .string a1_1]] (by rfl) rfl rfl (by (try simp only [List.map_toArray, List.map_cons, List.map_nil]); first | done | rfl | (simp only [List.length_drop, List.length_take]; rfl)) ?_
  with_reducible refine (spec_numTidy.calls k a1_0 a1_1 t177 t178 _ A4.out).mono ?_
  rintro e w10 ⟨rfl, hb⟩
  refine ⟨_, rfl, ?_⟩
  have n0_ := Aside0.mk (blk_below (g := gb173) (o := .cells #[.bool a0_0, .string a0_1] 64 (0, 0)) (by (with_reducible repeat (first | refine blk_drewN ?_ _ | refine blk_drew ?_ | refine blk_alloc ?_ _)); exact BK173.out) hb)
  have n1_ := Aside0.mk (blk_below (g := gb174) (o := .cells #[.bool a1_0, .string a1_1] 64 (0, 0)) (by (with_reducible repeat (first | refine blk_drewN ?_ _ | refine blk_drew ?_ | refine blk_alloc ?_ _)); exact BK174.out) hb)
  have n2_ := Aside0.mk (below_step (by repeat (first | (with_reducible first | exact HB.out | apply below_alloc | apply pw_below_drewN | apply below_drew1 | refine below_set ?_ GE173.out | refine below_set ?_ GE174.out) | exact HB.out)) hb)
  clear BK173
  clear BK174
  clear HB
  have BK173 := n0_
  have BK174 := n1_
  have HB := n2_
  clear n0_ n1_ n2_
  (try clear hb)
  (try clear hb2)
  (try clear hk)
  (try clear hi)
  refine hK.out _ _ ⟨(blk_cell BK173.out 0).trans rfl, (blk_cell BK173.out 1).trans rfl, (blk_cell BK174.out 0).trans rfl, (blk_cell BK174.out 1).trans rfl⟩ (fun hHeld => ?_)
  clear hK K
  refine norm_ (a' := ?_) ?_ ?_
  rotate_left
  · show Act.put _ (some 8) _ = _
    simp only [Act.put, List.setIfInBounds_toArray, List.set_cons_zero, List.set_cons_succ, i64_w, i32_w]
    rfl
  refine last_ (i := 4) (N := none) #[true, true, true, true, true, false] rfl rfl (by kernel_rfl) (by decide) (fun K hK => ?_)
  have hs11 : w10.cell? ⟨gb173, 0, none⟩ = some (.bool a0_0) := (blk_cell BK173.out 0).trans rfl
  have hfs11 := blk_frozen BK173.out 0
  have hns11_1 := NB174_173.out
  have hms11_1 := NB173_174.out
  have hs12 : w10.cell? ⟨gb173, 1, none⟩ = some (.string a0_1) := (blk_cell BK173.out 1).trans rfl
  have hfs12 := blk_frozen BK173.out 1
  have hns12_1 := NB174_173.out
  have hms12_1 := NB173_174.out
  refine skip_ (w1 := ?_) (by rfl) rfl ?_ ?_
  rotate_left
  · go_simp
    rfl
  refine hK.out _ _ ?_
  clear hK K
  refine last_ (i := 5) (N := none) #[true, true, true, true, true, true] rfl rfl (by kernel_rfl) (by decide) (fun K hK => ?_)
  have hs13 : w10.cell? ⟨gb174, 0, none⟩ = some (.bool a1_0) := (blk_cell BK174.out 0).trans rfl
  have hfs13 := blk_frozen BK174.out 0
  have hns13_0 := NB173_174.out
  have hms13_0 := NB174_173.out
  have hs14 : w10.cell? ⟨gb174, 1, none⟩ = some (.string a1_1) := (blk_cell BK174.out 1).trans rfl
  have hfs14 := blk_frozen BK174.out 1
  have hns14_0 := NB173_174.out
  have hms14_0 := NB174_173.out
  refine skip_ (w1 := ?_) (by rfl) rfl ?_ ?_
  rotate_left
  · go_simp
    rfl
  refine hK.out _ _ ?_
  clear hK K
  refine done_ (by kernel_rfl) ?_
  go_upto_block 0 with (fail)
  go_cut [] (fun wc => ∃ (kq : Nat) (x174000_4 : Bool) (x174001_4 : ByteArray) (x175000_4 : Bool) (x175001_4 : ByteArray), Aside0 (spec_intOrder.j2 kq x174000_4 x174001_4 x175000_4 x175001_4 = some r) ∧ Aside0 (kq ≤ k) ∧ Aside0 (wc.heap[gb173]? = some (.cells #[.bool x174000_4, .string x174001_4] 64 (0, 0))) ∧ Aside0 (wc.heap[gb174]? = some (.cells #[.bool x175000_4, .string x175001_4] 64 (0, 0))) ∧ Aside0 (Below w.heap.size w wc))
  case first =>
    have H := HC5.out
    clear HC5
    have HC15 := Aside0.mk H
    clear H
    go_upto_region 2 with (fail)
    go_cut [9] (fun v9 wc => ∃ (kq : Nat) (x9_14 : Bool), v9 = .bool x9_14 ∧ Aside0 (spec_intOrder.j0 kq x9_14 t175 t176 t177 t178 = some r) ∧ Aside0 (kq ≤ k) ∧ Aside0 (wc.heap[gb173]? = some (.cells #[.bool t175, .string t176] 64 (0, 0))) ∧ Aside0 (wc.heap[gb174]? = some (.cells #[.bool t177, .string t178] 64 (0, 0))) ∧ Aside0 (Below w.heap.size w wc))
    case first =>
      have H := HC15.out
      clear HC15
      by_cases c16 : t175 = true
      · subst c16
        have H1 : (spec_intOrder.j0 k (!t177) true t176 t177 t178) = some r := by rw [if_pos rfl] at H; exact H
        clear H
        have H := H1
        clear H1
        have H' := Aside0.mk H
        clear H
        have hnb17 := NB173_174.out
        have hnc17 := NB174_173.out
        have hcz18_0 : w10.cell? ⟨gb173, 0, none⟩ = some (.bool a0_0) := (blk_cell BK173.out 0).trans rfl
        have hcz18_1 : w10.cell? ⟨gb173, 1, none⟩ = some (.string a0_1) := (blk_cell BK173.out 1).trans rfl
        have hfz18_0 := blk_frozen BK173.out 0
        have hfz18_1 := blk_frozen BK173.out 1
        have hcz19_0 : w10.cell? ⟨gb174, 0, none⟩ = some (.bool a1_0) := (blk_cell BK174.out 0).trans rfl
        have hcz19_1 : w10.cell? ⟨gb174, 1, none⟩ = some (.string a1_1) := (blk_cell BK174.out 1).trans rfl
        have hfz19_0 := blk_frozen BK174.out 0
        have hfz19_1 := blk_frozen BK174.out 1
        go_wp2
        go_meet
        case rel => exact ⟨_, (!t177), (by first | rfl | (simp; done) | (simp [*]; done) | (simp [bne_nil_]; done)), H', ⟨by first | omega | exact Nat.le_refl _⟩, ⟨by (with_reducible repeat (first | refine blk_drewN ?_ _ | refine blk_drew ?_ | refine blk_alloc ?_ _)); refine blk_far ?_ NB173_174.out _; (with_reducible repeat (first | refine blk_drewN ?_ _ | refine blk_drew ?_ | refine blk_alloc ?_ _)); refine blk_far ?_ NB173_174.out _; (with_reducible repeat (first | refine blk_drewN ?_ _ | refine blk_drew ?_ | refine blk_alloc ?_ _)); refine blk_put (cs := #[.bool true, .string a0_1]) ?_ 1 _ rfl; (with_reducible repeat (first | refine blk_drewN ?_ _ | refine blk_drew ?_ | refine blk_alloc ?_ _)); refine blk_put (cs := #[.bool a0_0, .string a0_1]) ?_ 0 _ rfl; (with_reducible repeat (first | refine blk_drewN ?_ _ | refine blk_drew ?_ | refine blk_alloc ?_ _)); exact BK173.out⟩, ⟨by (with_reducible repeat (first | refine blk_drewN ?_ _ | refine blk_drew ?_ | refine blk_alloc ?_ _)); refine blk_put (cs := #[.bool t177, .string a1_1]) ?_ 1 _ rfl; (with_reducible repeat (first | refine blk_drewN ?_ _ | refine blk_drew ?_ | refine blk_alloc ?_ _)); refine blk_put (cs := #[.bool a1_0, .string a1_1]) ?_ 0 _ rfl; (with_reducible repeat (first | refine blk_drewN ?_ _ | refine blk_drew ?_ | refine blk_alloc ?_ _)); refine blk_far ?_ NB174_173.out _; (with_reducible repeat (first | refine blk_drewN ?_ _ | refine blk_drew ?_ | refine blk_alloc ?_ _)); refine blk_far ?_ NB174_173.out _; (with_reducible repeat (first | refine blk_drewN ?_ _ | refine blk_drew ?_ | refine blk_alloc ?_ _)); exact BK174.out⟩, ⟨by repeat (first | (with_reducible first | exact HB.out | apply below_alloc | apply pw_below_drewN | apply below_drew1 | refine below_set ?_ GE173.out | refine below_set ?_ GE174.out) | exact HB.out)⟩⟩
      · replace c16 := Bool.eq_false_iff.mpr c16
        subst c16
        have H1 : (spec_intOrder.j0 k false false t176 t177 t178) = some r := by rw [if_neg (show ¬ (false = true) by decide)] at H; exact H
        clear H
        have H := H1
        clear H1
        have H' := Aside0.mk H
        clear H
        have hnb20 := NB173_174.out
        have hnc20 := NB174_173.out
        have hcz21_0 : w10.cell? ⟨gb173, 0, none⟩ = some (.bool a0_0) := (blk_cell BK173.out 0).trans rfl
        have hcz21_1 : w10.cell? ⟨gb173, 1, none⟩ = some (.string a0_1) := (blk_cell BK173.out 1).trans rfl
        have hfz21_0 := blk_frozen BK173.out 0
        have hfz21_1 := blk_frozen BK173.out 1
        go_wp2
        go_meet
        case rel => exact ⟨_, (false), (by first | rfl | (simp; done) | (simp [*]; done) | (simp [bne_nil_]; done)), H', ⟨by first | omega | exact Nat.le_refl _⟩, ⟨by (with_reducible repeat (first | refine blk_drewN ?_ _ | refine blk_drew ?_ | refine blk_alloc ?_ _)); refine blk_far ?_ NB173_174.out _; (with_reducible repeat (first | refine blk_drewN ?_ _ | refine blk_drew ?_ | refine blk_alloc ?_ _)); refine blk_far ?_ NB173_174.out _; (with_reducible repeat (first | refine blk_drewN ?_ _ | refine blk_drew ?_ | refine blk_alloc ?_ _)); refine blk_put (cs := #[.bool false, .string a0_1]) ?_ 1 _ rfl; (with_reducible repeat (first | refine blk_drewN ?_ _ | refine blk_drew ?_ | refine blk_alloc ?_ _)); refine blk_put (cs := #[.bool a0_0, .string a0_1]) ?_ 0 _ rfl; (with_reducible repeat (first | refine blk_drewN ?_ _ | refine blk_drew ?_ | refine blk_alloc ?_ _)); exact BK173.out⟩, ⟨by (with_reducible repeat (first | refine blk_drewN ?_ _ | refine blk_drew ?_ | refine blk_alloc ?_ _)); refine blk_put (cs := #[.bool t177, .string a1_1]) ?_ 1 _ rfl; (with_reducible repeat (first | refine blk_drewN ?_ _ | refine blk_drew ?_ | refine blk_alloc ?_ _)); refine blk_put (cs := #[.bool a1_0, .string a1_1]) ?_ 0 _ rfl; (with_reducible repeat (first | refine blk_drewN ?_ _ | refine blk_drew ?_ | refine blk_alloc ?_ _)); refine blk_far ?_ NB174_173.out _; (with_reducible repeat (first | refine blk_drewN ?_ _ | refine blk_drew ?_ | refine blk_alloc ?_ _)); refine blk_far ?_ NB174_173.out _; (with_reducible repeat (first | refine blk_drewN ?_ _ | refine blk_drew ?_ | refine blk_alloc ?_ _)); exact BK174.out⟩, ⟨by repeat (first | (with_reducible first | exact HB.out | apply below_alloc | apply pw_below_drewN | apply below_drew1 | refine below_set ?_ GE173.out | refine below_set ?_ GE174.out) | exact HB.out)⟩⟩
    case rest =>
      clear HC15
      try clear c1
      try clear c2
      try clear p2
      try clear c7
      try clear c16
      try clear c17
      try clear c20
      try clear hcz18_0
      try clear hcz18_1
      try clear hcz19_0
      try clear hcz19_1
      try clear hcz21_0
      try clear hcz21_1
      try clear hfz18_0
      try clear hfz18_1
      try clear hfz19_0
      try clear hfz19_1
      try clear hfz21_0
      try clear hfz21_1
      obtain ⟨kq, x9_14, rfl, HA, HJ14, BK173, BK174, HB⟩ := hcut
      cases kq with
      | zero => exact absurd HA.out (by simp [spec_intOrder.j0])
      | succ kj14 =>
        have H := HA.out
        clear HA
        simp only [spec_intOrder.j0] at H
        by_cases c22 : x9_14 = true
        · subst c22
          have H1 : (some (-1)) = some r := by rw [if_pos rfl] at H; exact H
          clear H
          have H := H1
          clear H1
          obtain rfl := Option.some.inj H
          go_wp2
          go_ret
          exact ⟨by first | rfl | (simp [errW_none, errW_some] <;> rfl) | (simp [*, errW_none, errW_some] <;> rfl) | (simp [bne_nil_]; done), by repeat (first | (with_reducible first | exact HB.out | apply below_alloc | apply pw_below_drewN | apply below_drew1 | refine below_set ?_ GE173.out | refine below_set ?_ GE174.out) | exact HB.out)⟩
        · replace c22 := Bool.eq_false_iff.mpr c22
          subst c22
          have H1 : (if t175 = true then (spec_intOrder.j1 kj14 false t175 t176 t177 t178) else (spec_intOrder.j1 kj14 t177 t175 t176 t177 t178)) = some r := by rw [if_neg (show ¬ (false = true) by decide)] at H; exact H
          clear H
          have H := H1
          clear H1
          have HC23 := Aside0.mk H
          clear H
          go_upto_region 4 with (fail)
          go_cut [17] (fun v17 wc => ∃ (kq : Nat) (x17_22 : Bool), v17 = .bool x17_22 ∧ Aside0 (spec_intOrder.j1 kq x17_22 t175 t176 t177 t178 = some r) ∧ Aside0 (kq ≤ kj14) ∧ Aside0 (wc.heap[gb173]? = some (.cells #[.bool t175, .string t176] 64 (0, 0))) ∧ Aside0 (wc.heap[gb174]? = some (.cells #[.bool t177, .string t178] 64 (0, 0))) ∧ Aside0 (Below w.heap.size w wc))
          case first =>
            have H := HC23.out
            clear HC23
            by_cases c24 : t175 = true
            · subst c24
              have H1 : (spec_intOrder.j1 kj14 false true t176 t177 t178) = some r := by rw [if_pos rfl] at H; exact H
              clear H
              have H := H1
              clear H1
              have H' := Aside0.mk H
              clear H
              have hnb25 := NB173_174.out
              have hnc25 := NB174_173.out
              have hcz26_0 : wc.cell? ⟨gb173, 0, none⟩ = some (.bool true) := (blk_cell BK173.out 0).trans rfl
              have hcz26_1 : wc.cell? ⟨gb173, 1, none⟩ = some (.string t176) := (blk_cell BK173.out 1).trans rfl
              have hfz26_0 := blk_frozen BK173.out 0
              have hfz26_1 := blk_frozen BK173.out 1
              go_wp2
              go_meet
              case rel => exact ⟨_, (false), (by first | rfl | (simp; done) | (simp [*]; done) | (simp [bne_nil_]; done)), H', ⟨by have := HJ14.out; first | omega | exact Nat.le_refl _⟩, ⟨by (with_reducible repeat (first | refine blk_drewN ?_ _ | refine blk_drew ?_ | refine blk_alloc ?_ _)); exact BK173.out⟩, ⟨by (with_reducible repeat (first | refine blk_drewN ?_ _ | refine blk_drew ?_ | refine blk_alloc ?_ _)); exact BK174.out⟩, ⟨by repeat (first | (with_reducible first | exact HB.out | apply below_alloc | apply pw_below_drewN | apply below_drew1 | refine below_set ?_ GE173.out | refine below_set ?_ GE174.out) | exact HB.out)⟩⟩
            · replace c24 := Bool.eq_false_iff.mpr c24
              subst c24
              have H1 : (spec_intOrder.j1 kj14 t177 false t176 t177 t178) = some r := by rw [if_neg (show ¬ (false = true) by decide)] at H; exact H
              clear H
              have H := H1
              clear H1
              have H' := Aside0.mk H
              clear H
              have hnb27 := NB173_174.out
              have hnc27 := NB174_173.out
              have hcz28_0 : wc.cell? ⟨gb173, 0, none⟩ = some (.bool false) := (blk_cell BK173.out 0).trans rfl
              have hcz28_1 : wc.cell? ⟨gb173, 1, none⟩ = some (.string t176) := (blk_cell BK173.out 1).trans rfl
              have hfz28_0 := blk_frozen BK173.out 0
              have hfz28_1 := blk_frozen BK173.out 1
              have hcz29_0 : wc.cell? ⟨gb174, 0, none⟩ = some (.bool t177) := (blk_cell BK174.out 0).trans rfl
              have hcz29_1 : wc.cell? ⟨gb174, 1, none⟩ = some (.string t178) := (blk_cell BK174.out 1).trans rfl
              have hfz29_0 := blk_frozen BK174.out 0
              have hfz29_1 := blk_frozen BK174.out 1
              go_wp2
              go_meet
              case rel => exact ⟨_, (t177), (by first | rfl | (simp; done) | (simp [*]; done) | (simp [bne_nil_]; done)), H', ⟨by have := HJ14.out; first | omega | exact Nat.le_refl _⟩, ⟨by (with_reducible repeat (first | refine blk_drewN ?_ _ | refine blk_drew ?_ | refine blk_alloc ?_ _)); exact BK173.out⟩, ⟨by (with_reducible repeat (first | refine blk_drewN ?_ _ | refine blk_drew ?_ | refine blk_alloc ?_ _)); exact BK174.out⟩, ⟨by repeat (first | (with_reducible first | exact HB.out | apply below_alloc | apply pw_below_drewN | apply below_drew1 | refine below_set ?_ GE173.out | refine below_set ?_ GE174.out) | exact HB.out)⟩⟩
          case rest =>
            clear HC23
            try clear c1
            try clear c2
            try clear p2
            try clear c7
            try clear c16
            try clear c17
            try clear c20
            try clear c22
            try clear c24
            try clear c25
            try clear c27
            try clear hcz18_0
            try clear hcz18_1
            try clear hcz19_0
            try clear hcz19_1
            try clear hcz21_0
            try clear hcz21_1
            try clear hcz26_0
            try clear hcz26_1
            try clear hcz28_0
            try clear hcz28_1
            try clear hcz29_0
            try clear hcz29_1
            try clear hfz18_0
            try clear hfz18_1
            try clear hfz19_0
            try clear hfz19_1
            try clear hfz21_0
            try clear hfz21_1
            try clear hfz26_0
            try clear hfz26_1
            try clear hfz28_0
            try clear hfz28_1
            try clear hfz29_0
            try clear hfz29_1
            try clear p2
            obtain ⟨kq, x17_22, rfl, HA, HJ22, BK173, BK174, HB⟩ := hcut
            cases kq with
            | zero => exact absurd HA.out (by simp [spec_intOrder.j1])
            | succ kj22 =>
              have H := HA.out
              clear HA
              simp only [spec_intOrder.j1] at H
              by_cases c30 : x17_22 = true
              · subst c30
                have H1 : (some 1) = some r := by rw [if_pos rfl] at H; exact H
                clear H
                have H := H1
                clear H1
                obtain rfl := Option.some.inj H
                go_wp2
                go_ret
                exact ⟨by first | rfl | (simp [errW_none, errW_some] <;> rfl) | (simp [*, errW_none, errW_some] <;> rfl) | (simp [bne_nil_]; done), by repeat (first | (with_reducible first | exact HB.out | apply below_alloc | apply pw_below_drewN | apply below_drew1 | refine below_set ?_ GE173.out | refine below_set ?_ GE174.out) | exact HB.out)⟩
              · replace c30 := Bool.eq_false_iff.mpr c30
                subst c30
                have H1 : (if t175 = true then (spec_intOrder.j2 kj22 t177 t178 t175 t176) else (spec_intOrder.j2 kj22 t175 t176 t177 t178)) = some r := by rw [if_neg (show ¬ (false = true) by decide)] at H; exact H
                clear H
                have H := H1
                clear H1
                by_cases c31 : t175 = true
                · subst c31
                  have H1 : (spec_intOrder.j2 kj22 t177 t178 true t176) = some r := by rw [if_pos rfl] at H; exact H
                  clear H
                  have H := H1
                  clear H1
                  have H' := Aside0.mk H
                  clear H
                  have hnb32 := NB173_174.out
                  have hnc32 := NB174_173.out
                  have hcz33_0 : wc.cell? ⟨gb173, 0, none⟩ = some (.bool true) := (blk_cell BK173.out 0).trans rfl
                  have hcz33_1 : wc.cell? ⟨gb173, 1, none⟩ = some (.string t176) := (blk_cell BK173.out 1).trans rfl
                  have hfz33_0 := blk_frozen BK173.out 0
                  have hfz33_1 := blk_frozen BK173.out 1
                  have hcz34_0 : wc.cell? ⟨gb174, 0, none⟩ = some (.bool t177) := (blk_cell BK174.out 0).trans rfl
                  have hcz34_1 : wc.cell? ⟨gb174, 1, none⟩ = some (.string t178) := (blk_cell BK174.out 1).trans rfl
                  have hfz34_0 := blk_frozen BK174.out 0
                  have hfz34_1 := blk_frozen BK174.out 1
                  go_wp2
                  go_meet
                  case rel => exact ⟨_, (t177), (t178), (true), (t176), H', ⟨by have := HJ14.out; have := HJ22.out; first | omega | exact Nat.le_refl _⟩, ⟨by (with_reducible repeat (first | refine blk_drewN ?_ _ | refine blk_drew ?_ | refine blk_alloc ?_ _)); refine blk_far ?_ NB173_174.out _; (with_reducible repeat (first | refine blk_drewN ?_ _ | refine blk_drew ?_ | refine blk_alloc ?_ _)); refine blk_far ?_ NB173_174.out _; (with_reducible repeat (first | refine blk_drewN ?_ _ | refine blk_drew ?_ | refine blk_alloc ?_ _)); refine blk_put (cs := #[.bool t177, .string t176]) ?_ 1 _ rfl; (with_reducible repeat (first | refine blk_drewN ?_ _ | refine blk_drew ?_ | refine blk_alloc ?_ _)); refine blk_put (cs := #[.bool true, .string t176]) ?_ 0 _ rfl; (with_reducible repeat (first | refine blk_drewN ?_ _ | refine blk_drew ?_ | refine blk_alloc ?_ _)); exact BK173.out⟩, ⟨by (with_reducible repeat (first | refine blk_drewN ?_ _ | refine blk_drew ?_ | refine blk_alloc ?_ _)); refine blk_put (cs := #[.bool true, .string t178]) ?_ 1 _ rfl; (with_reducible repeat (first | refine blk_drewN ?_ _ | refine blk_drew ?_ | refine blk_alloc ?_ _)); refine blk_put (cs := #[.bool t177, .string t178]) ?_ 0 _ rfl; (with_reducible repeat (first | refine blk_drewN ?_ _ | refine blk_drew ?_ | refine blk_alloc ?_ _)); refine blk_far ?_ NB174_173.out _; (with_reducible repeat (first | refine blk_drewN ?_ _ | refine blk_drew ?_ | refine blk_alloc ?_ _)); refine blk_far ?_ NB174_173.out _; (with_reducible repeat (first | refine blk_drewN ?_ _ | refine blk_drew ?_ | refine blk_alloc ?_ _)); exact BK174.out⟩, ⟨by repeat (first | (with_reducible first | exact HB.out | apply below_alloc | apply pw_below_drewN | apply below_drew1 | refine below_set ?_ GE173.out | refine below_set ?_ GE174.out) | exact HB.out)⟩⟩
                · replace c31 := Bool.eq_false_iff.mpr c31
                  subst c31
                  have H1 : (spec_intOrder.j2 kj22 false t176 t177 t178) = some r := by rw [if_neg (show ¬ (false = true) by decide)] at H; exact H
                  clear H
                  have H := H1
                  clear H1
                  have H' := Aside0.mk H
                  clear H
                  have hnb35 := NB173_174.out
                  have hnc35 := NB174_173.out
                  have hcz36_0 : wc.cell? ⟨gb173, 0, none⟩ = some (.bool false) := (blk_cell BK173.out 0).trans rfl
                  have hcz36_1 : wc.cell? ⟨gb173, 1, none⟩ = some (.string t176) := (blk_cell BK173.out 1).trans rfl
                  have hfz36_0 := blk_frozen BK173.out 0
                  have hfz36_1 := blk_frozen BK173.out 1
                  go_wp2
                  go_meet
                  case rel => exact ⟨_, (false), (t176), (t177), (t178), H', ⟨by have := HJ14.out; have := HJ22.out; first | omega | exact Nat.le_refl _⟩, ⟨by (with_reducible repeat (first | refine blk_drewN ?_ _ | refine blk_drew ?_ | refine blk_alloc ?_ _)); exact BK173.out⟩, ⟨by (with_reducible repeat (first | refine blk_drewN ?_ _ | refine blk_drew ?_ | refine blk_alloc ?_ _)); exact BK174.out⟩, ⟨by repeat (first | (with_reducible first | exact HB.out | apply below_alloc | apply pw_below_drewN | apply below_drew1 | refine below_set ?_ GE173.out | refine below_set ?_ GE174.out) | exact HB.out)⟩⟩
  case rest =>
    clear HC5
    try clear c1
    try clear c2
    try clear p2
    try clear c3
    try clear c7
    try clear c16
    try clear c17
    try clear c20
    try clear c22
    try clear c24
    try clear c25
    try clear c27
    try clear c30
    try clear c31
    try clear c32
    try clear c35
    try clear hcz18_0
    try clear hcz18_1
    try clear hcz19_0
    try clear hcz19_1
    try clear hcz21_0
    try clear hcz21_1
    try clear hcz26_0
    try clear hcz26_1
    try clear hcz28_0
    try clear hcz28_1
    try clear hcz29_0
    try clear hcz29_1
    try clear hcz33_0
    try clear hcz33_1
    try clear hcz34_0
    try clear hcz34_1
    try clear hcz36_0
    try clear hcz36_1
    try clear hfz18_0
    try clear hfz18_1
    try clear hfz19_0
    try clear hfz19_1
    try clear hfz21_0
    try clear hfz21_1
    try clear hfz26_0
    try clear hfz26_1
    try clear hfz28_0
    try clear hfz28_1
    try clear hfz29_0
    try clear hfz29_1
    try clear hfz33_0
    try clear hfz33_1
    try clear hfz34_0
    try clear hfz34_1
    try clear hfz36_0
    try clear hfz36_1
    try clear p2
    obtain ⟨kq, x174000_4, x174001_4, x175000_4, x175001_4, HA, HJ4, BK173, BK174, HB⟩ := hcut
    cases kq with
    | zero => exact absurd HA.out (by simp [spec_intOrder.j2])
    | succ kj4 =>
      have H := HA.out
      clear HA
      simp only [spec_intOrder.j2] at H
      by_cases c37 : (x174001_4.size : Int) = (x175001_4.size : Int)
      · rw [if_pos c37] at H
        have c37b0 : ((x174001_4.size : Int) == (x175001_4.size : Int)) = true := beq_iff_eq.mpr c37
        have c37b1 : ((x174001_4.size : Int) != (x175001_4.size : Int)) = false := bne_eq_false_iff_eq.mpr c37
        have c37b2 : (x174001_4.size == x175001_4.size) = true := by first | simpa using c37 | (simp at c37 ⊢; omega)
        clear c37
        replace H := Option.bind_eq_some_iff.mp H
        obtain ⟨t179, A380, H⟩ := H
        replace H : (some t179) = some r := H
        have A38 := Aside0.mk A380
        clear A380
        obtain rfl := Option.some.inj H
        have hnb39 := NB173_174.out
        have hnc39 := NB174_173.out
        have hcz40_0 : wc.cell? ⟨gb173, 0, none⟩ = some (.bool x174000_4) := (blk_cell BK173.out 0).trans rfl
        have hcz40_1 : wc.cell? ⟨gb173, 1, none⟩ = some (.string x174001_4) := (blk_cell BK173.out 1).trans rfl
        have hfz40_0 := blk_frozen BK173.out 0
        have hfz40_1 := blk_frozen BK173.out 1
        have hcz41_0 : wc.cell? ⟨gb174, 0, none⟩ = some (.bool x175000_4) := (blk_cell BK174.out 0).trans rfl
        have hcz41_1 : wc.cell? ⟨gb174, 1, none⟩ = some (.string x175001_4) := (blk_cell BK174.out 1).trans rfl
        have hfz41_0 := blk_frozen BK174.out 0
        have hfz41_1 := blk_frozen BK174.out 1
        go_wp2_with (first | ((with_reducible refine gate_callee (f := 54) rfl ?_); refine goesL_ (some 48) rfl rfl Tryz.func54 (by kernel_rfl) rfl #[.string x174001_4, .string x175001_4] rfl (by (try simp only [List.map_toArray, List.map_cons, List.map_nil]); first | done | rfl | (simp only [List.length_drop, List.length_take]; rfl)) ?_; (with_reducible refine (Giv.spec_order.calls x174001_4 x175001_4 t179 _ A38.out).mono ?_); rintro e w' ⟨rfl, ⟨nd, rfl⟩⟩; refine ⟨_, rfl, ?_⟩))
        go_ret
        exact ⟨by first | rfl | (simp [errW_none, errW_some] <;> rfl) | (simp [*, errW_none, errW_some] <;> rfl) | (simp [bne_nil_]; done), by repeat (first | (with_reducible first | exact HB.out | apply below_alloc | apply pw_below_drewN | apply below_drew1 | refine below_set ?_ GE173.out | refine below_set ?_ GE174.out) | exact HB.out)⟩
      · rw [if_neg c37] at H
        have c37b0 : ((x174001_4.size : Int) == (x175001_4.size : Int)) = false := beq_eq_false_iff_ne.mpr c37
        have c37b1 : ((x174001_4.size : Int) != (x175001_4.size : Int)) = true := bne_iff_ne.mpr c37
        have c37b2 : (x174001_4.size == x175001_4.size) = false := by first | simpa using c37 | (simp at c37 ⊢; omega)
        replace H := Option.bind_eq_some_iff.mp H
        obtain ⟨t180, A420, H⟩ := H
        replace H : (some t180) = some r := H
        have A42 := Aside0.mk A420
        clear A420
        obtain rfl := Option.some.inj H
        have hnb43 := NB173_174.out
        have hnc43 := NB174_173.out
        have hcz44_0 : wc.cell? ⟨gb173, 0, none⟩ = some (.bool x174000_4) := (blk_cell BK173.out 0).trans rfl
        have hcz44_1 : wc.cell? ⟨gb173, 1, none⟩ = some (.string x174001_4) := (blk_cell BK173.out 1).trans rfl
        have hfz44_0 := blk_frozen BK173.out 0
        have hfz44_1 := blk_frozen BK173.out 1
        have hcz45_0 : wc.cell? ⟨gb174, 0, none⟩ = some (.bool x175000_4) := (blk_cell BK174.out 0).trans rfl
        have hcz45_1 : wc.cell? ⟨gb174, 1, none⟩ = some (.string x175001_4) := (blk_cell BK174.out 1).trans rfl
        have hfz45_0 := blk_frozen BK174.out 0
        have hfz45_1 := blk_frozen BK174.out 1
        go_wp2_with (first | ((with_reducible refine gate_callee (f := 29) rfl ?_); refine goesL_ (some 43) rfl rfl Tryz.func29 (by kernel_rfl) rfl #[.int .i64 (x174001_4.size : Int), .int .i64 (x175001_4.size : Int)] rfl (by (try simp only [List.map_toArray, List.map_cons, List.map_nil]); first | done | rfl | (simp only [List.length_drop, List.length_take]; rfl)) ?_; (with_reducible refine (spec_orderInts.calls (x174001_4.size : Int) (x175001_4.size : Int) t180 _ A42.out).mono ?_); rintro e w' ⟨rfl, ⟨nd, rfl⟩⟩; refine ⟨_, rfl, ?_⟩))
        go_ret
        exact ⟨by first | rfl | (simp [errW_none, errW_some] <;> rfl) | (simp [*, errW_none, errW_some] <;> rfl) | (simp [bne_nil_]; done), by repeat (first | (with_reducible first | exact HB.out | apply below_alloc | apply pw_below_drewN | apply below_drew1 | refine below_set ?_ GE173.out | refine below_set ?_ GE174.out) | exact HB.out)⟩

/-! ### spec_CompareNumbers: function 60 -/
mutual
def spec_CompareNumbers.l0 : Nat → List (S64) → List (S64) → Int → Option (Int)
  | 0, _, _, _ => none
  | k + 1, x0, x1, x5 => if x5 < (x0.length : Int) then (spec_CompareNumbers.j1 k x0 x1 x5 true) else (spec_CompareNumbers.j1 k x0 x1 x5 (decide (x5 < (x1.length : Int))))
def spec_CompareNumbers.j1 : Nat → List (S64) → List (S64) → Int → Bool → Option (Int)
  | 0, _, _, _, _ => none
  | k + 1, x0, x1, x5, x18 => if x18 = true then (if x5 < (x0.length : Int) then (if 0 ≤ x5 then (spec_CompareNumbers.j2 k x0 x1 x5 ((rd_T64 x0 x5).f0) ((rd_T64 x0 x5).f1) false (⟨#[]⟩ : ByteArray)) else (none)) else (spec_CompareNumbers.j2 k x0 x1 x5 false (⟨#[]⟩ : ByteArray) false (⟨#[]⟩ : ByteArray))) else (some 0)
def spec_CompareNumbers.j2 : Nat → List (S64) → List (S64) → Int → Bool → ByteArray → Bool → ByteArray → Option (Int)
  | 0, _, _, _, _, _, _, _ => none
  | k + 1, x0, x1, x5, x182000, x182001, x183000, x183001 => if x5 < (x1.length : Int) then (if 0 ≤ x5 then ((spec_intOrder.f k x182000 x182001 ((rd_T64 x1 x5).f0) ((rd_T64 x1 x5).f1)).bind fun t185 => (if t185 = 0 then (spec_CompareNumbers.l0 k x0 x1 (wrap64 (x5 + 1))) else (some t185))) else (none)) else ((spec_intOrder.f k x182000 x182001 x183000 x183001).bind fun t186 => (if t186 = 0 then (spec_CompareNumbers.l0 k x0 x1 (wrap64 (x5 + 1))) else (some t186)))
end
def spec_CompareNumbers.f (k : Nat) (l0 : List (S64)) (l1 : List (S64)) : Option (Int) := spec_CompareNumbers.l0 k l0 l1 0
theorem spec_CompareNumbers.mono_l : ∀ k, (∀ y0 y1 y2, LeO (spec_CompareNumbers.l0 k y0 y1 y2) (spec_CompareNumbers.l0 (k + 1) y0 y1 y2)) ∧ (∀ y0 y1 y2 y3, LeO (spec_CompareNumbers.j1 k y0 y1 y2 y3) (spec_CompareNumbers.j1 (k + 1) y0 y1 y2 y3)) ∧ (∀ y0 y1 y2 y3 y4 y5 y6, LeO (spec_CompareNumbers.j2 k y0 y1 y2 y3 y4 y5 y6) (spec_CompareNumbers.j2 (k + 1) y0 y1 y2 y3 y4 y5 y6))
  | 0 => ⟨fun _ _ _ r h => by simp [spec_CompareNumbers.l0] at h, fun _ _ _ _ r h => by simp [spec_CompareNumbers.j1] at h, fun _ _ _ _ _ _ _ r h => by simp [spec_CompareNumbers.j2] at h⟩
  | k + 1 => by
    obtain ⟨ih0, ih1, ih2⟩ := spec_CompareNumbers.mono_l k
    refine ⟨?_, ?_, ?_⟩
    · intro y0 y1 y2
      unfold spec_CompareNumbers.l0
      repeat' first
      | (with_reducible exact ih0 _ _ _)
      | (with_reducible exact ih1 _ _ _ _)
      | (with_reducible exact ih2 _ _ _ _ _ _ _)
      | (with_reducible exact spec_intOrder.mono _ _ _ _ _)
      | (with_reducible exact LeO.refl _)
      | (with_reducible exact LeO.none _)
      | (with_reducible refine LeO.ite ?_ ?_)
      | (with_reducible refine LeO.bind ?_ (fun _ => ?_))
      | exact ih0 _ _ _
      | exact ih1 _ _ _ _
      | exact ih2 _ _ _ _ _ _ _
      | exact spec_intOrder.mono _ _ _ _ _
      | exact LeO.none _
      | refine LeO.ite ?_ ?_
      | refine LeO.bind ?_ (fun _ => ?_)
    · intro y0 y1 y2 y3
      unfold spec_CompareNumbers.j1
      repeat' first
      | (with_reducible exact ih0 _ _ _)
      | (with_reducible exact ih1 _ _ _ _)
      | (with_reducible exact ih2 _ _ _ _ _ _ _)
      | (with_reducible exact spec_intOrder.mono _ _ _ _ _)
      | (with_reducible exact LeO.refl _)
      | (with_reducible exact LeO.none _)
      | (with_reducible refine LeO.ite ?_ ?_)
      | (with_reducible refine LeO.bind ?_ (fun _ => ?_))
      | exact ih0 _ _ _
      | exact ih1 _ _ _ _
      | exact ih2 _ _ _ _ _ _ _
      | exact spec_intOrder.mono _ _ _ _ _
      | exact LeO.none _
      | refine LeO.ite ?_ ?_
      | refine LeO.bind ?_ (fun _ => ?_)
    · intro y0 y1 y2 y3 y4 y5 y6
      unfold spec_CompareNumbers.j2
      repeat' first
      | (with_reducible exact ih0 _ _ _)
      | (with_reducible exact ih1 _ _ _ _)
      | (with_reducible exact ih2 _ _ _ _ _ _ _)
      | (with_reducible exact spec_intOrder.mono _ _ _ _ _)
      | (with_reducible exact LeO.refl _)
      | (with_reducible exact LeO.none _)
      | (with_reducible refine LeO.ite ?_ ?_)
      | (with_reducible refine LeO.bind ?_ (fun _ => ?_))
      | exact ih0 _ _ _
      | exact ih1 _ _ _ _
      | exact ih2 _ _ _ _ _ _ _
      | exact spec_intOrder.mono _ _ _ _ _
      | exact LeO.none _
      | refine LeO.ite ?_ ?_
      | refine LeO.bind ?_ (fun _ => ?_)
theorem spec_CompareNumbers.mono : ∀ a0 a1 k, LeO (spec_CompareNumbers.f k a0 a1) (spec_CompareNumbers.f (k + 1) a0 a1) := by
  intro a0 a1 k
  obtain ⟨ih0, ih1, ih2⟩ := spec_CompareNumbers.mono_l k
  unfold spec_CompareNumbers.f
  repeat' first
      | (with_reducible exact ih0 _ _ _)
      | (with_reducible exact ih1 _ _ _ _)
      | (with_reducible exact ih2 _ _ _ _ _ _ _)
      | (with_reducible exact spec_intOrder.mono _ _ _ _ _)
      | (with_reducible exact LeO.refl _)
      | (with_reducible exact LeO.none _)
      | (with_reducible refine LeO.ite ?_ ?_)
      | (with_reducible refine LeO.bind ?_ (fun _ => ?_))
      | exact ih0 _ _ _
      | exact ih1 _ _ _ _
      | exact ih2 _ _ _ _ _ _ _
      | exact spec_intOrder.mono _ _ _ _ _
      | exact LeO.none _
      | refine LeO.ite ?_ ?_
      | refine LeO.bind ?_ (fun _ => ?_)
set_option maxHeartbeats 8000000 in
set_option maxRecDepth 100000 in
theorem spec_CompareNumbers.calls (k : Nat) (A0 : Option Addr) (c0 : Nat) (l0 : List (S64)) (A1 : Option Addr) (c1 : Nat) (l1 : List (S64)) (r : Int) (w : World) (hr0 : Kd.C k64 w A0 l0.length l0) (hc0 : l0.length ≤ c0) (hr1 : Kd.C k64 w A1 l1.length l1) (hc1 : l1.length ≤ c1) (h : spec_CompareNumbers.f k l0 l1 = some r) :
    Calls Tryz.prog 60 #[.slice A0 l0.length c0, .slice A1 l1.length c1] w fun e w' => e = .returned (.int .i64 r) ∧ Below w.heap.size w w' := by
  have hu64 := Tryz.underlying64
  have HR0 := Aside0.mk hr0
  have HC0 := Aside0.mk hc0
  clear hr0 hc0
  have HR1 := Aside0.mk hr1
  have HC1 := Aside0.mk hc1
  clear hr1 hc1
  have HB := Aside0.mk (Below.refl w.heap.size w)
  have H : (spec_CompareNumbers.l0 k l0 l1 0) = some r := h
  clear h
  have H' := Aside0.mk H
  clear H
  go_enter Tryz.func60, Tryz.ntmps60
  go_wp2
  go_loopg [5] k (fun kq v5 w' => ∃ (x5_1 : Int), v5 = .int .i64 x5_1 ∧ Aside0 (spec_CompareNumbers.l0 kq l0 l1 x5_1 = some r) ∧ Aside0 (kq ≤ k) ∧ Aside0 (Below w.heap.size w w'))
  case atStart => exact ⟨(0), (by first | rfl | (simp; done) | (simp [*]; done) | (simp [bne_nil_]; done)), H', ⟨Nat.le_refl _⟩, ⟨by repeat (first | (with_reducible first | exact HB.out | apply below_alloc | apply pw_below_drewN | apply below_drew1) | exact HB.out)⟩⟩
  case round =>
    clear H'
    try clear c1
    try clear p2
    obtain ⟨x5_1, rfl, HA, HK1, HB⟩ := hrel
    cases gk with
    | zero => exact absurd HA.out (by simp [spec_CompareNumbers.l0])
    | succ k1 =>
      have H := HA.out
      clear HA
      simp only [spec_CompareNumbers.l0] at H
      have HC3 := Aside0.mk H
      clear H
      go_upto_region 2 with (fail)
      go_cut [18] (fun v18 wc => ∃ (kq : Nat) (x18_2 : Bool), v18 = .bool x18_2 ∧ Aside0 (spec_CompareNumbers.j1 kq l0 l1 x5_1 x18_2 = some r) ∧ Aside0 (kq ≤ k1) ∧ Aside0 (Below w.heap.size w wc))
      case first =>
        have H := HC3.out
        clear HC3
        by_cases c4 : x5_1 < (l0.length : Int)
        · rw [if_pos c4] at H
          have c4b0 : decide (x5_1 < (l0.length : Int)) = true := decide_eq_true c4
          clear c4
          (first | rw [c4b0] | (simp only [i64_w, i32_w]; rw [c4b0]) | skip)
          have H' := Aside0.mk H
          clear H
          go_wp2
          go_meet
          case rel => exact ⟨_, (true), (by first | rfl | (simp; done) | (simp [*]; done) | (simp [bne_nil_]; done)), H', ⟨by have := HK1.out; first | omega | exact Nat.le_refl _⟩, ⟨by repeat (first | (with_reducible first | exact HB.out | apply below_alloc | apply pw_below_drewN | apply below_drew1) | exact HB.out)⟩⟩
        · rw [if_neg c4] at H
          have c4b0 : decide (x5_1 < (l0.length : Int)) = false := decide_eq_false c4
          clear c4
          (first | rw [c4b0] | (simp only [i64_w, i32_w]; rw [c4b0]) | skip)
          have H' := Aside0.mk H
          clear H
          go_wp2
          go_meet
          case rel => exact ⟨_, (decide (x5_1 < (l1.length : Int))), (by first | rfl | (simp; done) | (simp [*]; done) | (simp [bne_nil_]; done)), H', ⟨by have := HK1.out; first | omega | exact Nat.le_refl _⟩, ⟨by repeat (first | (with_reducible first | exact HB.out | apply below_alloc | apply pw_below_drewN | apply below_drew1) | exact HB.out)⟩⟩
      case rest =>
        clear HC3
        try clear c1
        try clear p2
        try clear c4
        try clear c4b0
        try clear p2
        obtain ⟨kq, x18_2, rfl, HA, HJ2, HB⟩ := hcut
        cases kq with
        | zero => exact absurd HA.out (by simp [spec_CompareNumbers.j1])
        | succ kj2 =>
          have H := HA.out
          clear HA
          simp only [spec_CompareNumbers.j1] at H
          by_cases c5 : x18_2 = true
          · subst c5
            have H1 : (if x5_1 < (l0.length : Int) then (if 0 ≤ x5_1 then (spec_CompareNumbers.j2 kj2 l0 l1 x5_1 ((rd_T64 l0 x5_1).f0) ((rd_T64 l0 x5_1).f1) false (⟨#[]⟩ : ByteArray)) else (none)) else (spec_CompareNumbers.j2 kj2 l0 l1 x5_1 false (⟨#[]⟩ : ByteArray) false (⟨#[]⟩ : ByteArray))) = some r := by rw [if_pos rfl] at H; exact H
            clear H
            have H := H1
            clear H1
            have HC6 := Aside0.mk H
            clear H
            go_upto_if 24 with (first | ((with_reducible refine gate_dst (N := 6) rfl ?_); (try (refine gate_guard (by rfl) ?_; dsimp only)); refine box_event ?hg (N := 6) ?hd (cs := #[.bool false, .string (⟨#[]⟩ : ByteArray)]) (t := 64) ?hr ?_; (case hd => rfl); (case hg => rfl); (case hr => first | (go_simp; done) | (go_simp; rfl)); intro gb181 hg w7 hbox hb; have n0_ := Aside0.mk (below_step (by repeat (first | (with_reducible first | exact HB.out | apply below_alloc | apply pw_below_drewN | apply below_drew1) | exact HB.out)) hb); have n1_ := Aside0.mk (hbox); have n2_ := Aside0.mk ((by rw [hg]; exact (below_size (by repeat (first | (with_reducible first | exact HB.out | apply below_alloc | apply pw_below_drewN | apply below_drew1) | exact HB.out))) : w.heap.size ≤ gb181)); have n3_ := Aside0.mk ((by rw [hg]; exact (below_size (by repeat (first | (with_reducible first | exact HB.out | apply below_alloc | apply pw_below_drewN | apply below_drew1) | exact HB.out))) : w.heap.size ≤ gb181)); clear HB; have HB := n0_; have BK181 := n1_; have GW181 := n2_; have GE181 := n3_; clear n0_ n1_ n2_ n3_; clear hb hbox hg) | ((with_reducible refine gate_dst (N := 7) rfl ?_); (try (refine gate_guard (by rfl) ?_; dsimp only)); refine box_event ?hg (N := 7) ?hd (cs := #[.bool false, .string (⟨#[]⟩ : ByteArray)]) (t := 64) ?hr ?_; (case hd => rfl); (case hg => rfl); (case hr => first | (go_simp; done) | (go_simp; rfl)); intro gb182 hg w8 hbox hb; have n0_ := Aside0.mk (blk_below (g := gb181) (o := .cells #[.bool false, .string (⟨#[]⟩ : ByteArray)] 64 (0, 0)) (by (with_reducible repeat (first | refine blk_drewN ?_ _ | refine blk_drew ?_ | refine blk_alloc ?_ _)); exact BK181.out) hb); have n1_ := Aside0.mk (below_step (by repeat (first | (with_reducible first | exact HB.out | apply below_alloc | apply pw_below_drewN | apply below_drew1 | refine below_set ?_ GE181.out) | exact HB.out)) hb); have n2_ := Aside0.mk (hbox); have n3_ := Aside0.mk ((by rw [hg]; exact (below_size (by repeat (first | (with_reducible first | exact HB.out | apply below_alloc | apply pw_below_drewN | apply below_drew1 | refine below_set ?_ GE181.out) | exact HB.out))) : w.heap.size ≤ gb182)); have n4_ := Aside0.mk ((by rw [hg]; exact (below_size (by repeat (first | (with_reducible first | exact HB.out | apply below_alloc | apply pw_below_drewN | apply below_drew1 | refine below_set ?_ GE181.out) | exact HB.out))) : w.heap.size ≤ gb182)); have n5_ := Aside0.mk ((by rw [hg]; exact Nat.ne_of_lt (blk_lt (g := gb181) (o := .cells #[.bool false, .string (⟨#[]⟩ : ByteArray)] 64 (0, 0)) (by (with_reducible repeat (first | refine blk_drewN ?_ _ | refine blk_drew ?_ | refine blk_alloc ?_ _)); exact BK181.out)) : gb181 ≠ gb182)); have n6_ := Aside0.mk ((by rw [hg]; exact Nat.ne_of_gt (blk_lt (g := gb181) (o := .cells #[.bool false, .string (⟨#[]⟩ : ByteArray)] 64 (0, 0)) (by (with_reducible repeat (first | refine blk_drewN ?_ _ | refine blk_drew ?_ | refine blk_alloc ?_ _)); exact BK181.out)) : gb182 ≠ gb181)); clear BK181; clear HB; have BK181 := n0_; have HB := n1_; have BK182 := n2_; have GW182 := n3_; have GE182 := n4_; have NB181_182 := n5_; have NB182_181 := n6_; clear n0_ n1_ n2_ n3_ n4_ n5_ n6_; clear hb hbox hg))
            (try simp only [Act.put, List.setIfInBounds_toArray, List.set_cons_zero, List.set_cons_succ])
            go_cut [] (fun wc => ∃ (kq : Nat) (x182000_5 : Bool) (x182001_5 : ByteArray), Aside0 (spec_CompareNumbers.j2 kq l0 l1 x5_1 x182000_5 x182001_5 false (⟨#[]⟩ : ByteArray) = some r) ∧ Aside0 (kq ≤ kj2) ∧ Aside0 (wc.heap[gb181]? = some (.cells #[.bool x182000_5, .string x182001_5] 64 (0, 0))) ∧ Aside0 (wc.heap[gb182]? = some (.cells #[.bool false, .string (⟨#[]⟩ : ByteArray)] 64 (0, 0))) ∧ Aside0 (Below w.heap.size w wc))
            case first =>
              have H := HC6.out
              clear HC6
              by_cases c9 : x5_1 < (l0.length : Int)
              · rw [if_pos c9] at H
                have c9b0 : decide (x5_1 < (l0.length : Int)) = true := decide_eq_true c9
                clear c9
                (first | rw [c9b0] | (simp only [i64_w, i32_w]; rw [c9b0]) | skip)
                by_cases c10 : 0 ≤ x5_1
                · rw [if_pos c10] at H
                  have c10b0 : decide (0 ≤ x5_1) = true := decide_eq_true c10
                  clear c10
                  have H' := Aside0.mk H
                  clear H
                  have p183 : 0 ≤ (x5_1 : Int) := of_decide_eq_true (by first | (with_reducible assumption) | assumption)
                  have q183 : x5_1 < (l0.length : Int) := of_decide_eq_true (by first | (with_reducible assumption) | assumption)
                  obtain ⟨ad183, e183, hx183_0, hx183_1⟩ := at_T64 HR0.out x5_1 p183 q183
                  cases e183
                  replace hx183_0 := (HB.out.cell (World.block_lt_of_cell? w _ hx183_0)).trans hx183_0
                  replace hx183_1 := (HB.out.cell (World.block_lt_of_cell? w _ hx183_1)).trans hx183_1
                  replace p183 := eq_true p183
                  replace q183 := eq_true q183
                  have hnb11 := NB181_182.out
                  have hnc11 := NB182_181.out
                  have hcz12_0 : w8.cell? ⟨gb181, 0, none⟩ = some (.bool false) := (blk_cell BK181.out 0).trans rfl
                  have hcz12_1 : w8.cell? ⟨gb181, 1, none⟩ = some (.string (⟨#[]⟩ : ByteArray)) := (blk_cell BK181.out 1).trans rfl
                  have hfz12_0 := blk_frozen BK181.out 0
                  have hfz12_1 := blk_frozen BK181.out 1
                  go_wp2
                  go_meet
                  case rel => exact ⟨_, ((rd_T64 l0 x5_1).f0), ((rd_T64 l0 x5_1).f1), H', ⟨by have := HK1.out; have := HJ2.out; first | omega | exact Nat.le_refl _⟩, ⟨by (with_reducible repeat (first | refine blk_drewN ?_ _ | refine blk_drew ?_ | refine blk_alloc ?_ _)); refine blk_put (cs := #[.bool ((rd_T64 l0 x5_1).f0), .string (⟨#[]⟩ : ByteArray)]) ?_ 1 _ rfl; (with_reducible repeat (first | refine blk_drewN ?_ _ | refine blk_drew ?_ | refine blk_alloc ?_ _)); refine blk_put (cs := #[.bool false, .string (⟨#[]⟩ : ByteArray)]) ?_ 0 _ rfl; (with_reducible repeat (first | refine blk_drewN ?_ _ | refine blk_drew ?_ | refine blk_alloc ?_ _)); exact BK181.out⟩, ⟨by (with_reducible repeat (first | refine blk_drewN ?_ _ | refine blk_drew ?_ | refine blk_alloc ?_ _)); refine blk_far ?_ NB182_181.out _; (with_reducible repeat (first | refine blk_drewN ?_ _ | refine blk_drew ?_ | refine blk_alloc ?_ _)); refine blk_far ?_ NB182_181.out _; (with_reducible repeat (first | refine blk_drewN ?_ _ | refine blk_drew ?_ | refine blk_alloc ?_ _)); exact BK182.out⟩, ⟨by repeat (first | (with_reducible first | exact HB.out | apply below_alloc | apply pw_below_drewN | apply below_drew1 | refine below_set ?_ GE181.out | refine below_set ?_ GE182.out) | exact HB.out)⟩⟩
                · rw [if_neg c10] at H
                  exact absurd H (by simp)
              · rw [if_neg c9] at H
                have c9b0 : decide (x5_1 < (l0.length : Int)) = false := decide_eq_false c9
                clear c9
                (first | rw [c9b0] | (simp only [i64_w, i32_w]; rw [c9b0]) | skip)
                have H' := Aside0.mk H
                clear H
                go_wp2
                go_meet
                case rel => exact ⟨_, (false), ((⟨#[]⟩ : ByteArray)), H', ⟨by have := HK1.out; have := HJ2.out; first | omega | exact Nat.le_refl _⟩, ⟨by (with_reducible repeat (first | refine blk_drewN ?_ _ | refine blk_drew ?_ | refine blk_alloc ?_ _)); exact BK181.out⟩, ⟨by (with_reducible repeat (first | refine blk_drewN ?_ _ | refine blk_drew ?_ | refine blk_alloc ?_ _)); exact BK182.out⟩, ⟨by repeat (first | (with_reducible first | exact HB.out | apply below_alloc | apply pw_below_drewN | apply below_drew1 | refine below_set ?_ GE181.out | refine below_set ?_ GE182.out) | exact HB.out)⟩⟩
            case rest =>
              clear HC6
              try clear c1
              try clear p1
              try clear q1
              try clear hx1
              try clear p2
              try clear c4
              try clear c4b0
              try clear c5
              try clear c6
              try clear c9
              try clear c9b0
              try clear c10
              try clear c10b0
              try clear c11
              try clear hcz12_0
              try clear hcz12_1
              try clear hfz12_0
              try clear hfz12_1
              try clear hx183_0
              try clear hx183_1
              try clear p183
              try clear p2
              try clear q183
              obtain ⟨kq, x182000_5, x182001_5, HA, HJ5, BK181, BK182, HB⟩ := hcut
              cases kq with
              | zero => exact absurd HA.out (by simp [spec_CompareNumbers.j2])
              | succ kj5 =>
                have H := HA.out
                clear HA
                simp only [spec_CompareNumbers.j2] at H
                by_cases c13 : x5_1 < (l1.length : Int)
                · rw [if_pos c13] at H
                  have c13b0 : decide (x5_1 < (l1.length : Int)) = true := decide_eq_true c13
                  clear c13
                  by_cases c14 : 0 ≤ x5_1
                  · rw [if_pos c14] at H
                    have c14b0 : decide (0 ≤ x5_1) = true := decide_eq_true c14
                    clear c14
                    replace H := Option.bind_eq_some_iff.mp H
                    obtain ⟨t185, A150, H⟩ := H
                    replace H : (if t185 = 0 then (spec_CompareNumbers.l0 kj5 l0 l1 (wrap64 (x5_1 + 1))) else (some t185)) = some r := H
                    have A15 := Aside0.mk A150
                    clear A150
                    by_cases c16 : t185 = 0
                    · rw [if_pos c16] at H
                      have c16b0 : (t185 == 0) = true := beq_iff_eq.mpr c16
                      have c16b1 : (t185 != 0) = false := bne_eq_false_iff_eq.mpr c16
                      clear c16
                      have H' := Aside0.mk H
                      clear H
                      have p184 : 0 ≤ (x5_1 : Int) := of_decide_eq_true (by first | (with_reducible assumption) | assumption)
                      have q184 : x5_1 < (l1.length : Int) := of_decide_eq_true (by first | (with_reducible assumption) | assumption)
                      obtain ⟨ad184, e184, hx184_0, hx184_1⟩ := at_T64 HR1.out x5_1 p184 q184
                      cases e184
                      replace hx184_0 := (HB.out.cell (World.block_lt_of_cell? w _ hx184_0)).trans hx184_0
                      replace hx184_1 := (HB.out.cell (World.block_lt_of_cell? w _ hx184_1)).trans hx184_1
                      replace p184 := eq_true p184
                      replace q184 := eq_true q184
                      have hnb17 := NB182_181.out
                      have hnc17 := NB181_182.out
                      have hcz18_0 : wc.cell? ⟨gb182, 0, none⟩ = some (.bool false) := (blk_cell BK182.out 0).trans rfl
                      have hcz18_1 : wc.cell? ⟨gb182, 1, none⟩ = some (.string (⟨#[]⟩ : ByteArray)) := (blk_cell BK182.out 1).trans rfl
                      have hfz18_0 := blk_frozen BK182.out 0
                      have hfz18_1 := blk_frozen BK182.out 1
                      have hcz19_0 : wc.cell? ⟨gb181, 0, none⟩ = some (.bool x182000_5) := (blk_cell BK181.out 0).trans rfl
                      have hcz19_1 : wc.cell? ⟨gb181, 1, none⟩ = some (.string x182001_5) := (blk_cell BK181.out 1).trans rfl
                      have hfz19_0 := blk_frozen BK181.out 0
                      have hfz19_1 := blk_frozen BK181.out 1
                      go_wp2_with (first | ((with_reducible refine gate_callee (f := 79) rfl ?_); refine goesL_ (some 39) rfl rfl Tryz.func79 (by kernel_rfl) rfl #[.agg #[.bool x182000_5, .string x182001_5], .agg #[.bool ((rd_T64 l1 x5_1).f0), .string ((rd_T64 l1 x5_1).f1)]] rfl (by (try simp only [List.map_toArray, List.map_cons, List.map_nil]); first | done | rfl | (simp only [List.length_drop, List.length_take]; rfl)) ?_; (with_reducible refine (spec_intOrder.calls kj5 x182000_5 x182001_5 ((rd_T64 l1 x5_1).f0) ((rd_T64 l1 x5_1).f1) t185 _ A15.out).mono ?_); rintro e w20 ⟨rfl, hb⟩; refine ⟨_, rfl, ?_⟩; have n0_ := Aside0.mk (blk_below (g := gb181) (o := .cells #[.bool x182000_5, .string x182001_5] 64 (0, 0)) (by (with_reducible repeat (first | refine blk_drewN ?_ _ | refine blk_drew ?_ | refine blk_alloc ?_ _)); refine blk_far ?_ NB181_182.out _; (with_reducible repeat (first | refine blk_drewN ?_ _ | refine blk_drew ?_ | refine blk_alloc ?_ _)); refine blk_far ?_ NB181_182.out _; (with_reducible repeat (first | refine blk_drewN ?_ _ | refine blk_drew ?_ | refine blk_alloc ?_ _)); exact BK181.out) hb); have n1_ := Aside0.mk (blk_below (g := gb182) (o := .cells #[.bool ((rd_T64 l1 x5_1).f0), .string ((rd_T64 l1 x5_1).f1)] 64 (0, 0)) (by (with_reducible repeat (first | refine blk_drewN ?_ _ | refine blk_drew ?_ | refine blk_alloc ?_ _)); refine blk_put (cs := #[.bool ((rd_T64 l1 x5_1).f0), .string (⟨#[]⟩ : ByteArray)]) ?_ 1 _ rfl; (with_reducible repeat (first | refine blk_drewN ?_ _ | refine blk_drew ?_ | refine blk_alloc ?_ _)); refine blk_put (cs := #[.bool false, .string (⟨#[]⟩ : ByteArray)]) ?_ 0 _ rfl; (with_reducible repeat (first | refine blk_drewN ?_ _ | refine blk_drew ?_ | refine blk_alloc ?_ _)); exact BK182.out) hb); have n2_ := Aside0.mk (below_step (by repeat (first | (with_reducible first | exact HB.out | apply below_alloc | apply pw_below_drewN | apply below_drew1 | refine below_set ?_ GE181.out | refine below_set ?_ GE182.out) | exact HB.out)) hb); clear BK181; clear BK182; clear HB; have BK181 := n0_; have BK182 := n1_; have HB := n2_; clear n0_ n1_ n2_; (try clear hb); (try clear hb2); (try clear hk); (try clear hi)))
                      go_roundg kj5
                      case measure => have := HK1.out; have := HJ2.out; have := HJ5.out; omega
                      case rel => exact ⟨(wrap64 (x5_1 + 1)), (by first | rfl | (simp; done) | (simp [*]; done) | (simp [bne_nil_]; done)), H', ⟨by have := HK1.out; have := HJ2.out; have := HJ5.out; omega⟩, ⟨by repeat (first | (with_reducible first | exact HB.out | apply below_alloc | apply pw_below_drewN | apply below_drew1 | refine below_set ?_ GE181.out | refine below_set ?_ GE182.out) | exact HB.out)⟩⟩
                    · rw [if_neg c16] at H
                      have c16b0 : (t185 == 0) = false := beq_eq_false_iff_ne.mpr c16
                      have c16b1 : (t185 != 0) = true := bne_iff_ne.mpr c16
                      obtain rfl := Option.some.inj H
                      have p184 : 0 ≤ (x5_1 : Int) := of_decide_eq_true (by first | (with_reducible assumption) | assumption)
                      have q184 : x5_1 < (l1.length : Int) := of_decide_eq_true (by first | (with_reducible assumption) | assumption)
                      obtain ⟨ad184, e184, hx184_0, hx184_1⟩ := at_T64 HR1.out x5_1 p184 q184
                      cases e184
                      replace hx184_0 := (HB.out.cell (World.block_lt_of_cell? w _ hx184_0)).trans hx184_0
                      replace hx184_1 := (HB.out.cell (World.block_lt_of_cell? w _ hx184_1)).trans hx184_1
                      replace p184 := eq_true p184
                      replace q184 := eq_true q184
                      have hnb21 := NB182_181.out
                      have hnc21 := NB181_182.out
                      have hcz22_0 : wc.cell? ⟨gb182, 0, none⟩ = some (.bool false) := (blk_cell BK182.out 0).trans rfl
                      have hcz22_1 : wc.cell? ⟨gb182, 1, none⟩ = some (.string (⟨#[]⟩ : ByteArray)) := (blk_cell BK182.out 1).trans rfl
                      have hfz22_0 := blk_frozen BK182.out 0
                      have hfz22_1 := blk_frozen BK182.out 1
                      have hcz23_0 : wc.cell? ⟨gb181, 0, none⟩ = some (.bool x182000_5) := (blk_cell BK181.out 0).trans rfl
                      have hcz23_1 : wc.cell? ⟨gb181, 1, none⟩ = some (.string x182001_5) := (blk_cell BK181.out 1).trans rfl
                      have hfz23_0 := blk_frozen BK181.out 0
                      have hfz23_1 := blk_frozen BK181.out 1
                      go_wp2_with (first | ((with_reducible refine gate_callee (f := 79) rfl ?_); refine goesL_ (some 39) rfl rfl Tryz.func79 (by kernel_rfl) rfl #[.agg #[.bool x182000_5, .string x182001_5], .agg #[.bool ((rd_T64 l1 x5_1).f0), .string ((rd_T64 l1 x5_1).f1)]] rfl (by (try simp only [List.map_toArray, List.map_cons, List.map_nil]); first | done | rfl | (simp only [List.length_drop, List.length_take]; rfl)) ?_; (with_reducible refine (spec_intOrder.calls kj5 x182000_5 x182001_5 ((rd_T64 l1 x5_1).f0) ((rd_T64 l1 x5_1).f1) t185 _ A15.out).mono ?_); rintro e w24 ⟨rfl, hb⟩; refine ⟨_, rfl, ?_⟩; have n0_ := Aside0.mk (blk_below (g := gb181) (o := .cells #[.bool x182000_5, .string x182001_5] 64 (0, 0)) (by (with_reducible repeat (first | refine blk_drewN ?_ _ | refine blk_drew ?_ | refine blk_alloc ?_ _)); refine blk_far ?_ NB181_182.out _; (with_reducible repeat (first | refine blk_drewN ?_ _ | refine blk_drew ?_ | refine blk_alloc ?_ _)); refine blk_far ?_ NB181_182.out _; (with_reducible repeat (first | refine blk_drewN ?_ _ | refine blk_drew ?_ | refine blk_alloc ?_ _)); exact BK181.out) hb); have n1_ := Aside0.mk (blk_below (g := gb182) (o := .cells #[.bool ((rd_T64 l1 x5_1).f0), .string ((rd_T64 l1 x5_1).f1)] 64 (0, 0)) (by (with_reducible repeat (first | refine blk_drewN ?_ _ | refine blk_drew ?_ | refine blk_alloc ?_ _)); refine blk_put (cs := #[.bool ((rd_T64 l1 x5_1).f0), .string (⟨#[]⟩ : ByteArray)]) ?_ 1 _ rfl; (with_reducible repeat (first | refine blk_drewN ?_ _ | refine blk_drew ?_ | refine blk_alloc ?_ _)); refine blk_put (cs := #[.bool false, .string (⟨#[]⟩ : ByteArray)]) ?_ 0 _ rfl; (with_reducible repeat (first | refine blk_drewN ?_ _ | refine blk_drew ?_ | refine blk_alloc ?_ _)); exact BK182.out) hb); have n2_ := Aside0.mk (below_step (by repeat (first | (with_reducible first | exact HB.out | apply below_alloc | apply pw_below_drewN | apply below_drew1 | refine below_set ?_ GE181.out | refine below_set ?_ GE182.out) | exact HB.out)) hb); clear BK181; clear BK182; clear HB; have BK181 := n0_; have BK182 := n1_; have HB := n2_; clear n0_ n1_ n2_; (try clear hb); (try clear hb2); (try clear hk); (try clear hi)))
                      go_ret
                      exact ⟨by first | rfl | (simp [errW_none, errW_some] <;> rfl) | (simp [*, errW_none, errW_some] <;> rfl) | (simp [bne_nil_]; done), by repeat (first | (with_reducible first | exact HB.out | apply below_alloc | apply pw_below_drewN | apply below_drew1 | refine below_set ?_ GE181.out | refine below_set ?_ GE182.out) | exact HB.out)⟩
                  · rw [if_neg c14] at H
                    exact absurd H (by simp)
                · rw [if_neg c13] at H
                  have c13b0 : decide (x5_1 < (l1.length : Int)) = false := decide_eq_false c13
                  clear c13
                  replace H := Option.bind_eq_some_iff.mp H
                  obtain ⟨t186, A250, H⟩ := H
                  replace H : (if t186 = 0 then (spec_CompareNumbers.l0 kj5 l0 l1 (wrap64 (x5_1 + 1))) else (some t186)) = some r := H
                  have A25 := Aside0.mk A250
                  clear A250
                  by_cases c26 : t186 = 0
                  · rw [if_pos c26] at H
                    have c26b0 : (t186 == 0) = true := beq_iff_eq.mpr c26
                    have c26b1 : (t186 != 0) = false := bne_eq_false_iff_eq.mpr c26
                    clear c26
                    have H' := Aside0.mk H
                    clear H
                    have hnb27 := NB181_182.out
                    have hnc27 := NB182_181.out
                    have hcz28_0 : wc.cell? ⟨gb181, 0, none⟩ = some (.bool x182000_5) := (blk_cell BK181.out 0).trans rfl
                    have hcz28_1 : wc.cell? ⟨gb181, 1, none⟩ = some (.string x182001_5) := (blk_cell BK181.out 1).trans rfl
                    have hfz28_0 := blk_frozen BK181.out 0
                    have hfz28_1 := blk_frozen BK181.out 1
                    have hcz29_0 : wc.cell? ⟨gb182, 0, none⟩ = some (.bool false) := (blk_cell BK182.out 0).trans rfl
                    have hcz29_1 : wc.cell? ⟨gb182, 1, none⟩ = some (.string (⟨#[]⟩ : ByteArray)) := (blk_cell BK182.out 1).trans rfl
                    have hfz29_0 := blk_frozen BK182.out 0
                    have hfz29_1 := blk_frozen BK182.out 1
                    go_wp2_with (first | ((with_reducible refine gate_callee (f := 79) rfl ?_); refine goesL_ (some 39) rfl rfl Tryz.func79 (by kernel_rfl) rfl #[.agg #[.bool x182000_5, .string x182001_5], .agg #[.bool false, .string (⟨#[]⟩ : ByteArray)]] rfl (by (try simp only [List.map_toArray, List.map_cons, List.map_nil]); first | done | rfl | (simp only [List.length_drop, List.length_take]; rfl)) ?_; (with_reducible refine (spec_intOrder.calls kj5 x182000_5 x182001_5 false (⟨#[]⟩ : ByteArray) t186 _ A25.out).mono ?_); rintro e w30 ⟨rfl, hb⟩; refine ⟨_, rfl, ?_⟩; have n0_ := Aside0.mk (blk_below (g := gb181) (o := .cells #[.bool x182000_5, .string x182001_5] 64 (0, 0)) (by (with_reducible repeat (first | refine blk_drewN ?_ _ | refine blk_drew ?_ | refine blk_alloc ?_ _)); exact BK181.out) hb); have n1_ := Aside0.mk (blk_below (g := gb182) (o := .cells #[.bool false, .string (⟨#[]⟩ : ByteArray)] 64 (0, 0)) (by (with_reducible repeat (first | refine blk_drewN ?_ _ | refine blk_drew ?_ | refine blk_alloc ?_ _)); exact BK182.out) hb); have n2_ := Aside0.mk (below_step (by repeat (first | (with_reducible first | exact HB.out | apply below_alloc | apply pw_below_drewN | apply below_drew1 | refine below_set ?_ GE181.out | refine below_set ?_ GE182.out) | exact HB.out)) hb); clear BK181; clear BK182; clear HB; have BK181 := n0_; have BK182 := n1_; have HB := n2_; clear n0_ n1_ n2_; (try clear hb); (try clear hb2); (try clear hk); (try clear hi)))
                    go_roundg kj5
                    case measure => have := HK1.out; have := HJ2.out; have := HJ5.out; omega
                    case rel => exact ⟨(wrap64 (x5_1 + 1)), (by first | rfl | (simp; done) | (simp [*]; done) | (simp [bne_nil_]; done)), H', ⟨by have := HK1.out; have := HJ2.out; have := HJ5.out; omega⟩, ⟨by repeat (first | (with_reducible first | exact HB.out | apply below_alloc | apply pw_below_drewN | apply below_drew1 | refine below_set ?_ GE181.out | refine below_set ?_ GE182.out) | exact HB.out)⟩⟩
                  · rw [if_neg c26] at H
                    have c26b0 : (t186 == 0) = false := beq_eq_false_iff_ne.mpr c26
                    have c26b1 : (t186 != 0) = true := bne_iff_ne.mpr c26
                    obtain rfl := Option.some.inj H
                    have hnb31 := NB181_182.out
                    have hnc31 := NB182_181.out
                    have hcz32_0 : wc.cell? ⟨gb181, 0, none⟩ = some (.bool x182000_5) := (blk_cell BK181.out 0).trans rfl
                    have hcz32_1 : wc.cell? ⟨gb181, 1, none⟩ = some (.string x182001_5) := (blk_cell BK181.out 1).trans rfl
                    have hfz32_0 := blk_frozen BK181.out 0
                    have hfz32_1 := blk_frozen BK181.out 1
                    have hcz33_0 : wc.cell? ⟨gb182, 0, none⟩ = some (.bool false) := (blk_cell BK182.out 0).trans rfl
                    have hcz33_1 : wc.cell? ⟨gb182, 1, none⟩ = some (.string (⟨#[]⟩ : ByteArray)) := (blk_cell BK182.out 1).trans rfl
                    have hfz33_0 := blk_frozen BK182.out 0
                    have hfz33_1 := blk_frozen BK182.out 1
                    go_wp2_with (first | ((with_reducible refine gate_callee (f := 79) rfl ?_); refine goesL_ (some 39) rfl rfl Tryz.func79 (by kernel_rfl) rfl #[.agg #[.bool x182000_5, .string x182001_5], .agg #[.bool false, .string (⟨#[]⟩ : ByteArray)]] rfl (by (try simp only [List.map_toArray, List.map_cons, List.map_nil]); first | done | rfl | (simp only [List.length_drop, List.length_take]; rfl)) ?_; (with_reducible refine (spec_intOrder.calls kj5 x182000_5 x182001_5 false (⟨#[]⟩ : ByteArray) t186 _ A25.out).mono ?_); rintro e w34 ⟨rfl, hb⟩; refine ⟨_, rfl, ?_⟩; have n0_ := Aside0.mk (blk_below (g := gb181) (o := .cells #[.bool x182000_5, .string x182001_5] 64 (0, 0)) (by (with_reducible repeat (first | refine blk_drewN ?_ _ | refine blk_drew ?_ | refine blk_alloc ?_ _)); exact BK181.out) hb); have n1_ := Aside0.mk (blk_below (g := gb182) (o := .cells #[.bool false, .string (⟨#[]⟩ : ByteArray)] 64 (0, 0)) (by (with_reducible repeat (first | refine blk_drewN ?_ _ | refine blk_drew ?_ | refine blk_alloc ?_ _)); exact BK182.out) hb); have n2_ := Aside0.mk (below_step (by repeat (first | (with_reducible first | exact HB.out | apply below_alloc | apply pw_below_drewN | apply below_drew1 | refine below_set ?_ GE181.out | refine below_set ?_ GE182.out) | exact HB.out)) hb); clear BK181; clear BK182; clear HB; have BK181 := n0_; have BK182 := n1_; have HB := n2_; clear n0_ n1_ n2_; (try clear hb); (try clear hb2); (try clear hk); (try clear hi)))
                    go_ret
                    exact ⟨by first | rfl | (simp [errW_none, errW_some] <;> rfl) | (simp [*, errW_none, errW_some] <;> rfl) | (simp [bne_nil_]; done), by repeat (first | (with_reducible first | exact HB.out | apply below_alloc | apply pw_below_drewN | apply below_drew1 | refine below_set ?_ GE181.out | refine below_set ?_ GE182.out) | exact HB.out)⟩
          · replace c5 := Bool.eq_false_iff.mpr c5
            subst c5
            have H1 : (some 0) = some r := by rw [if_neg (show ¬ (false = true) by decide)] at H; exact H
            clear H
            have H := H1
            clear H1
            obtain rfl := Option.some.inj H
            go_wp2
            go_ret
            exact ⟨by first | rfl | (simp [errW_none, errW_some] <;> rfl) | (simp [*, errW_none, errW_some] <;> rfl) | (simp [bne_nil_]; done), by repeat (first | (with_reducible first | exact HB.out | apply below_alloc | apply pw_below_drewN | apply below_drew1) | exact HB.out)⟩

/-! ### spec_orderNumbers: function 28 -/
mutual
def spec_orderNumbers.j1 : Nat → ByteArray → ByteArray → Option (Int)
  | 0, _, _ => none
  | k + 1, x0, x1 => spec_orderNumbers.l1 k x0 x1
def spec_orderNumbers.j3 : Nat → ByteArray → ByteArray → Option (Int)
  | 0, _, _ => none
  | k + 1, x0, x1 => if (x0.size : Int) = (x1.size : Int) then ((Giv.spec_order.f x0 x1).bind fun t187 => (some t187)) else ((spec_orderInts.f (x0.size : Int) (x1.size : Int)).bind fun t188 => (some t188))
def spec_orderNumbers.l1 : Nat → ByteArray → ByteArray → Option (Int)
  | 0, _, _ => none
  | k + 1, x0, x1 => if (x1.size : Int) > 0 then (if 0 < (x1.size : Int) then (if (bt x1 0) = 48 then (if 1 ≤ (x1.size : Int) then (spec_orderNumbers.l1 k x0 (x1.extract 1 x1.size)) else (none)) else (spec_orderNumbers.j3 k x0 x1)) else (none)) else (spec_orderNumbers.j3 k x0 x1)
def spec_orderNumbers.l0 : Nat → ByteArray → ByteArray → Option (Int)
  | 0, _, _ => none
  | k + 1, x0, x1 => if (x0.size : Int) > 0 then (if 0 < (x0.size : Int) then (if (bt x0 0) = 48 then (if 1 ≤ (x0.size : Int) then (spec_orderNumbers.l0 k (x0.extract 1 x0.size) x1) else (none)) else (spec_orderNumbers.j1 k x0 x1)) else (none)) else (spec_orderNumbers.j1 k x0 x1)
end
def spec_orderNumbers.f (k : Nat) (a0 : ByteArray) (a1 : ByteArray) : Option (Int) := spec_orderNumbers.l0 k a0 a1
theorem spec_orderNumbers.mono_l : ∀ k, (∀ y0 y1, LeO (spec_orderNumbers.j1 k y0 y1) (spec_orderNumbers.j1 (k + 1) y0 y1)) ∧ (∀ y0 y1, LeO (spec_orderNumbers.j3 k y0 y1) (spec_orderNumbers.j3 (k + 1) y0 y1)) ∧ (∀ y0 y1, LeO (spec_orderNumbers.l1 k y0 y1) (spec_orderNumbers.l1 (k + 1) y0 y1)) ∧ (∀ y0 y1, LeO (spec_orderNumbers.l0 k y0 y1) (spec_orderNumbers.l0 (k + 1) y0 y1))
  | 0 => ⟨fun _ _ r h => by simp [spec_orderNumbers.j1] at h, fun _ _ r h => by simp [spec_orderNumbers.j3] at h, fun _ _ r h => by simp [spec_orderNumbers.l1] at h, fun _ _ r h => by simp [spec_orderNumbers.l0] at h⟩
  | k + 1 => by
    obtain ⟨ih0, ih1, ih2, ih3⟩ := spec_orderNumbers.mono_l k
    refine ⟨?_, ?_, ?_, ?_⟩
    · intro y0 y1
      unfold spec_orderNumbers.j1
      repeat' first
      | (with_reducible exact ih0 _ _)
      | (with_reducible exact ih1 _ _)
      | (with_reducible exact ih2 _ _)
      | (with_reducible exact ih3 _ _)
      | (with_reducible exact LeO.refl _)
      | (with_reducible exact LeO.none _)
      | (with_reducible refine LeO.ite ?_ ?_)
      | (with_reducible refine LeO.bind ?_ (fun _ => ?_))
      | exact ih0 _ _
      | exact ih1 _ _
      | exact ih2 _ _
      | exact ih3 _ _
      | exact LeO.none _
      | refine LeO.ite ?_ ?_
      | refine LeO.bind ?_ (fun _ => ?_)
    · intro y0 y1
      unfold spec_orderNumbers.j3
      repeat' first
      | (with_reducible exact ih0 _ _)
      | (with_reducible exact ih1 _ _)
      | (with_reducible exact ih2 _ _)
      | (with_reducible exact ih3 _ _)
      | (with_reducible exact LeO.refl _)
      | (with_reducible exact LeO.none _)
      | (with_reducible refine LeO.ite ?_ ?_)
      | (with_reducible refine LeO.bind ?_ (fun _ => ?_))
      | exact ih0 _ _
      | exact ih1 _ _
      | exact ih2 _ _
      | exact ih3 _ _
      | exact LeO.none _
      | refine LeO.ite ?_ ?_
      | refine LeO.bind ?_ (fun _ => ?_)
    · intro y0 y1
      unfold spec_orderNumbers.l1
      repeat' first
      | (with_reducible exact ih0 _ _)
      | (with_reducible exact ih1 _ _)
      | (with_reducible exact ih2 _ _)
      | (with_reducible exact ih3 _ _)
      | (with_reducible exact LeO.refl _)
      | (with_reducible exact LeO.none _)
      | (with_reducible refine LeO.ite ?_ ?_)
      | (with_reducible refine LeO.bind ?_ (fun _ => ?_))
      | exact ih0 _ _
      | exact ih1 _ _
      | exact ih2 _ _
      | exact ih3 _ _
      | exact LeO.none _
      | refine LeO.ite ?_ ?_
      | refine LeO.bind ?_ (fun _ => ?_)
    · intro y0 y1
      unfold spec_orderNumbers.l0
      repeat' first
      | (with_reducible exact ih0 _ _)
      | (with_reducible exact ih1 _ _)
      | (with_reducible exact ih2 _ _)
      | (with_reducible exact ih3 _ _)
      | (with_reducible exact LeO.refl _)
      | (with_reducible exact LeO.none _)
      | (with_reducible refine LeO.ite ?_ ?_)
      | (with_reducible refine LeO.bind ?_ (fun _ => ?_))
      | exact ih0 _ _
      | exact ih1 _ _
      | exact ih2 _ _
      | exact ih3 _ _
      | exact LeO.none _
      | refine LeO.ite ?_ ?_
      | refine LeO.bind ?_ (fun _ => ?_)
theorem spec_orderNumbers.mono : ∀ a0 a1 k, LeO (spec_orderNumbers.f k a0 a1) (spec_orderNumbers.f (k + 1) a0 a1) := by
  intro a0 a1 k
  obtain ⟨ih0, ih1, ih2, ih3⟩ := spec_orderNumbers.mono_l k
  unfold spec_orderNumbers.f
  repeat' first
      | (with_reducible exact ih0 _ _)
      | (with_reducible exact ih1 _ _)
      | (with_reducible exact ih2 _ _)
      | (with_reducible exact ih3 _ _)
      | (with_reducible exact LeO.refl _)
      | (with_reducible exact LeO.none _)
      | (with_reducible refine LeO.ite ?_ ?_)
      | (with_reducible refine LeO.bind ?_ (fun _ => ?_))
      | exact ih0 _ _
      | exact ih1 _ _
      | exact ih2 _ _
      | exact ih3 _ _
      | exact LeO.none _
      | refine LeO.ite ?_ ?_
      | refine LeO.bind ?_ (fun _ => ?_)
set_option maxHeartbeats 8000000 in
set_option maxRecDepth 100000 in
theorem spec_orderNumbers.calls (k : Nat) (a0 : ByteArray) (a1 : ByteArray) (r : Int) (w : World) (h : spec_orderNumbers.f k a0 a1 = some r) :
    Calls Tryz.prog 28 #[.string a0, .string a1] w fun e w' => e = .returned (.int .i64 r) ∧ Drawn0 w w' := by
  have H : (spec_orderNumbers.l0 k a0 a1) = some r := h
  clear h
  have HC3 := Aside0.mk H
  clear H
  go_enter Tryz.func28, Tryz.ntmps28
  go_upto_block 0 with (fail)
  go_cut [0] (fun v0 wc => ∃ (kq : Nat) (x0_2 : ByteArray), v0 = .string x0_2 ∧ Aside0 (spec_orderNumbers.j1 kq x0_2 a1 = some r) ∧ Aside0 (kq ≤ k) ∧ Drawn0 w wc)
  case first =>
    have H := HC3.out
    clear HC3
    have H' := Aside0.mk H
    clear H
    go_wp2
    go_loopg [0] k (fun kq v0 w' => ∃ (x0_1 : ByteArray), v0 = .string x0_1 ∧ Aside0 (spec_orderNumbers.l0 kq x0_1 a1 = some r) ∧ Aside0 (kq ≤ k) ∧ Drawn0 w w')
    case atStart => exact ⟨(a0), (by first | rfl | (simp; done) | (simp [*]; done) | (simp [bne_nil_]; done)), H', ⟨Nat.le_refl _⟩, by repeat (first | exact Drawn0.refl _ | apply Drawn0.step)⟩
    case round =>
      clear H'
      try clear c2
      try clear p2
      obtain ⟨x0_1, rfl, HA, HK1, ⟨m1, rfl⟩⟩ := hrel
      cases gk with
      | zero => exact absurd HA.out (by simp [spec_orderNumbers.l0])
      | succ k1 =>
        have H := HA.out
        clear HA
        simp only [spec_orderNumbers.l0] at H
        by_cases c4 : (x0_1.size : Int) > 0
        · rw [if_pos c4] at H
          have c4b0 : decide (0 < (x0_1.size : Int)) = true := decide_eq_true c4
          have c4b1 : decide (0 < x0_1.size) = true := decide_eq_true (by omega)
          clear c4
          (first | rw [c4b0] | (simp only [i64_w, i32_w]; rw [c4b0]) | skip)
          by_cases c5 : 0 < (x0_1.size : Int)
          · rw [if_pos c5] at H
            have c5b0 : decide (0 < (x0_1.size : Int)) = true := decide_eq_true c5
            have c5b1 : decide (0 < x0_1.size) = true := decide_eq_true (by omega)
            clear c5
            by_cases c7 : (bt x0_1 0) = 48
            · rw [if_pos c7] at H
              have c7b0 : ((bt x0_1 0) == 48) = true := beq_iff_eq.mpr c7
              have c7b1 : ((bt x0_1 0) != 48) = false := bne_eq_false_iff_eq.mpr c7
              clear c7
              by_cases c8 : 1 ≤ (x0_1.size : Int)
              · rw [if_pos c8] at H
                have c8b0 := eq_true c8
                have c8b1 : decide (1 ≤ (x0_1.size : Int)) = true := decide_eq_true c8
                clear c8
                have H' := Aside0.mk H
                clear H
                have p6 : 0 ≤ (0 : Int) := (by omega)
                have q6 : 0 < x0_1.size := (by have : (0 : Int) < (x0_1.size : Int) := of_decide_eq_true (by first | (with_reducible assumption) | assumption); omega)
                have hx6 : ∀ h : 0 < x0_1.size, ((x0_1[0]'h).toNat : Int) = bt x0_1 0 := bt_at x0_1 0
                clear p6
                have qi6 : (0 < (x0_1.size : Int)) = True := eq_true (of_decide_eq_true (by first | (with_reducible assumption) | assumption))
                replace q6 := eq_true q6
                go_wp2
                go_roundg k1
                case measure => have := HK1.out; omega
                case rel => exact ⟨(x0_1.extract 1 x0_1.size), (by first | rfl | (simp; done) | (simp [*]; done) | (simp [bne_nil_]; done)), H', ⟨by have := HK1.out; omega⟩, by repeat (first | exact Drawn0.refl _ | apply Drawn0.step)⟩
              · rw [if_neg c8] at H
                exact absurd H (by simp)
            · rw [if_neg c7] at H
              have c7b0 : ((bt x0_1 0) == 48) = false := beq_eq_false_iff_ne.mpr c7
              have c7b1 : ((bt x0_1 0) != 48) = true := bne_iff_ne.mpr c7
              have H' := Aside0.mk H
              clear H
              have p6 : 0 ≤ (0 : Int) := (by omega)
              have q6 : 0 < x0_1.size := (by have : (0 : Int) < (x0_1.size : Int) := of_decide_eq_true (by first | (with_reducible assumption) | assumption); omega)
              have hx6 : ∀ h : 0 < x0_1.size, ((x0_1[0]'h).toNat : Int) = bt x0_1 0 := bt_at x0_1 0
              clear p6
              have qi6 : (0 < (x0_1.size : Int)) = True := eq_true (of_decide_eq_true (by first | (with_reducible assumption) | assumption))
              replace q6 := eq_true q6
              go_wp2
              go_meet
              case rel => exact ⟨_, (x0_1), (by first | rfl | (simp; done) | (simp [*]; done) | (simp [bne_nil_]; done)), H', ⟨by have := HK1.out; first | omega | exact Nat.le_refl _⟩, by repeat (first | exact Drawn0.refl _ | apply Drawn0.step)⟩
          · rw [if_neg c5] at H
            exact absurd H (by simp)
        · rw [if_neg c4] at H
          have c4b0 : decide (0 < (x0_1.size : Int)) = false := decide_eq_false c4
          have c4b1 : decide (0 < x0_1.size) = false := decide_eq_false (by omega)
          clear c4
          (first | rw [c4b0] | (simp only [i64_w, i32_w]; rw [c4b0]) | skip)
          have H' := Aside0.mk H
          clear H
          go_wp2
          go_meet
          case rel => exact ⟨_, (x0_1), (by first | rfl | (simp; done) | (simp [*]; done) | (simp [bne_nil_]; done)), H', ⟨by have := HK1.out; first | omega | exact Nat.le_refl _⟩, by repeat (first | exact Drawn0.refl _ | apply Drawn0.step)⟩
  case rest =>
    clear HC3
    try clear c2
    try clear p2
    try clear c4
    try clear c4b0
    try clear c4b1
    try clear c5
    try clear c5b0
    try clear c5b1
    try clear p6
    try clear q6
    try clear hx6
    try clear qi6
    try clear c7
    try clear c7b0
    try clear c7b1
    try clear c8
    try clear c8b0
    try clear c8b1
    try clear p2
    try clear p6
    try clear q6
    obtain ⟨kq, x0_2, rfl, HA, HJ2, ⟨mc2, rfl⟩⟩ := hcut
    cases kq with
    | zero => exact absurd HA.out (by simp [spec_orderNumbers.j1])
    | succ kj2 =>
      have H := HA.out
      clear HA
      simp only [spec_orderNumbers.j1] at H
      have HC9 := Aside0.mk H
      clear H
      go_upto_block 2 with (fail)
      go_cut [1] (fun v1 wc => ∃ (kq : Nat) (x1_8 : ByteArray), v1 = .string x1_8 ∧ Aside0 (spec_orderNumbers.j3 kq x0_2 x1_8 = some r) ∧ Aside0 (kq ≤ kj2) ∧ Drawn0 w wc)
      case first =>
        have H := HC9.out
        clear HC9
        have H' := Aside0.mk H
        clear H
        go_wp2
        go_loopg [1] kj2 (fun kq v1 w' => ∃ (x1_2 : ByteArray), v1 = .string x1_2 ∧ Aside0 (spec_orderNumbers.l1 kq x0_2 x1_2 = some r) ∧ Aside0 (kq ≤ kj2) ∧ Drawn0 w w')
        case atStart => exact ⟨(a1), (by first | rfl | (simp; done) | (simp [*]; done) | (simp [bne_nil_]; done)), H', ⟨Nat.le_refl _⟩, by repeat (first | exact Drawn0.refl _ | apply Drawn0.step)⟩
        case round =>
          clear H'
          try clear c2
          try clear p2
          try clear c4
          try clear c4b0
          try clear c4b1
          try clear c5
          try clear c5b0
          try clear c5b1
          try clear p6
          try clear q6
          try clear hx6
          try clear qi6
          try clear c7
          try clear c7b0
          try clear c7b1
          try clear c8
          try clear c8b0
          try clear c8b1
          try clear p2
          try clear p6
          try clear q6
          obtain ⟨x1_2, rfl, HA, HK2, ⟨m2, rfl⟩⟩ := hrel
          cases gk with
          | zero => exact absurd HA.out (by simp [spec_orderNumbers.l1])
          | succ k2 =>
            have H := HA.out
            clear HA
            simp only [spec_orderNumbers.l1] at H
            by_cases c10 : (x1_2.size : Int) > 0
            · rw [if_pos c10] at H
              have c10b0 : decide (0 < (x1_2.size : Int)) = true := decide_eq_true c10
              have c10b1 : decide (0 < x1_2.size) = true := decide_eq_true (by omega)
              clear c10
              (first | rw [c10b0] | (simp only [i64_w, i32_w]; rw [c10b0]) | skip)
              by_cases c11 : 0 < (x1_2.size : Int)
              · rw [if_pos c11] at H
                have c11b0 : decide (0 < (x1_2.size : Int)) = true := decide_eq_true c11
                have c11b1 : decide (0 < x1_2.size) = true := decide_eq_true (by omega)
                clear c11
                by_cases c13 : (bt x1_2 0) = 48
                · rw [if_pos c13] at H
                  have c13b0 : ((bt x1_2 0) == 48) = true := beq_iff_eq.mpr c13
                  have c13b1 : ((bt x1_2 0) != 48) = false := bne_eq_false_iff_eq.mpr c13
                  clear c13
                  by_cases c14 : 1 ≤ (x1_2.size : Int)
                  · rw [if_pos c14] at H
                    have c14b0 := eq_true c14
                    have c14b1 : decide (1 ≤ (x1_2.size : Int)) = true := decide_eq_true c14
                    clear c14
                    have H' := Aside0.mk H
                    clear H
                    have p12 : 0 ≤ (0 : Int) := (by omega)
                    have q12 : 0 < x1_2.size := (by have : (0 : Int) < (x1_2.size : Int) := of_decide_eq_true (by first | (with_reducible assumption) | assumption); omega)
                    have hx12 : ∀ h : 0 < x1_2.size, ((x1_2[0]'h).toNat : Int) = bt x1_2 0 := bt_at x1_2 0
                    clear p12
                    have qi12 : (0 < (x1_2.size : Int)) = True := eq_true (of_decide_eq_true (by first | (with_reducible assumption) | assumption))
                    replace q12 := eq_true q12
                    go_wp2
                    go_roundg k2
                    case measure => have := HJ2.out; have := HK2.out; omega
                    case rel => exact ⟨(x1_2.extract 1 x1_2.size), (by first | rfl | (simp; done) | (simp [*]; done) | (simp [bne_nil_]; done)), H', ⟨by have := HJ2.out; have := HK2.out; omega⟩, by repeat (first | exact Drawn0.refl _ | apply Drawn0.step)⟩
                  · rw [if_neg c14] at H
                    exact absurd H (by simp)
                · rw [if_neg c13] at H
                  have c13b0 : ((bt x1_2 0) == 48) = false := beq_eq_false_iff_ne.mpr c13
                  have c13b1 : ((bt x1_2 0) != 48) = true := bne_iff_ne.mpr c13
                  have H' := Aside0.mk H
                  clear H
                  have p12 : 0 ≤ (0 : Int) := (by omega)
                  have q12 : 0 < x1_2.size := (by have : (0 : Int) < (x1_2.size : Int) := of_decide_eq_true (by first | (with_reducible assumption) | assumption); omega)
                  have hx12 : ∀ h : 0 < x1_2.size, ((x1_2[0]'h).toNat : Int) = bt x1_2 0 := bt_at x1_2 0
                  clear p12
                  have qi12 : (0 < (x1_2.size : Int)) = True := eq_true (of_decide_eq_true (by first | (with_reducible assumption) | assumption))
                  replace q12 := eq_true q12
                  go_wp2
                  go_meet
                  case rel => exact ⟨_, (x1_2), (by first | rfl | (simp; done) | (simp [*]; done) | (simp [bne_nil_]; done)), H', ⟨by have := HJ2.out; have := HK2.out; first | omega | exact Nat.le_refl _⟩, by repeat (first | exact Drawn0.refl _ | apply Drawn0.step)⟩
              · rw [if_neg c11] at H
                exact absurd H (by simp)
            · rw [if_neg c10] at H
              have c10b0 : decide (0 < (x1_2.size : Int)) = false := decide_eq_false c10
              have c10b1 : decide (0 < x1_2.size) = false := decide_eq_false (by omega)
              clear c10
              (first | rw [c10b0] | (simp only [i64_w, i32_w]; rw [c10b0]) | skip)
              have H' := Aside0.mk H
              clear H
              go_wp2
              go_meet
              case rel => exact ⟨_, (x1_2), (by first | rfl | (simp; done) | (simp [*]; done) | (simp [bne_nil_]; done)), H', ⟨by have := HJ2.out; have := HK2.out; first | omega | exact Nat.le_refl _⟩, by repeat (first | exact Drawn0.refl _ | apply Drawn0.step)⟩
      case rest =>
        clear HC9
        try clear c1
        try clear p1
        try clear q1
        try clear hx1
        try clear qi1
        try clear c2
        try clear p2
        try clear c4
        try clear c4b0
        try clear c4b1
        try clear c5
        try clear c5b0
        try clear c5b1
        try clear p6
        try clear q6
        try clear hx6
        try clear qi6
        try clear c7
        try clear c7b0
        try clear c7b1
        try clear c8
        try clear c8b0
        try clear c8b1
        try clear c10
        try clear c10b0
        try clear c10b1
        try clear c11
        try clear c11b0
        try clear c11b1
        try clear p12
        try clear q12
        try clear hx12
        try clear qi12
        try clear c13
        try clear c13b0
        try clear c13b1
        try clear c14
        try clear c14b0
        try clear c14b1
        try clear p12
        try clear p2
        try clear p6
        try clear q12
        try clear q6
        obtain ⟨kq, x1_8, rfl, HA, HJ8, ⟨mc8, rfl⟩⟩ := hcut
        cases kq with
        | zero => exact absurd HA.out (by simp [spec_orderNumbers.j3])
        | succ kj8 =>
          have H := HA.out
          clear HA
          simp only [spec_orderNumbers.j3] at H
          by_cases c15 : (x0_2.size : Int) = (x1_8.size : Int)
          · rw [if_pos c15] at H
            have c15b0 : ((x0_2.size : Int) == (x1_8.size : Int)) = true := beq_iff_eq.mpr c15
            have c15b1 : ((x0_2.size : Int) != (x1_8.size : Int)) = false := bne_eq_false_iff_eq.mpr c15
            have c15b2 : (x0_2.size == x1_8.size) = true := by first | simpa using c15 | (simp at c15 ⊢; omega)
            clear c15
            replace H := Option.bind_eq_some_iff.mp H
            obtain ⟨t187, A160, H⟩ := H
            replace H : (some t187) = some r := H
            have A16 := Aside0.mk A160
            clear A160
            obtain rfl := Option.some.inj H
            go_wp2_with (first | ((with_reducible refine gate_callee (f := 54) rfl ?_); refine goesL_ (some 37) rfl rfl Tryz.func54 (by kernel_rfl) rfl #[.string x0_2, .string x1_8] rfl (by (try simp only [List.map_toArray, List.map_cons, List.map_nil]); first | done | rfl | (simp only [List.length_drop, List.length_take]; rfl)) ?_; (with_reducible refine (Giv.spec_order.calls x0_2 x1_8 t187 _ A16.out).mono ?_); rintro e w' ⟨rfl, ⟨nd, rfl⟩⟩; refine ⟨_, rfl, ?_⟩))
            go_ret
            exact ⟨by first | rfl | (simp; done) | (simp [*]; done) | (simp [bne_nil_]; done), by repeat (first | exact Drawn0.refl _ | apply Drawn0.step)⟩
          · rw [if_neg c15] at H
            have c15b0 : ((x0_2.size : Int) == (x1_8.size : Int)) = false := beq_eq_false_iff_ne.mpr c15
            have c15b1 : ((x0_2.size : Int) != (x1_8.size : Int)) = true := bne_iff_ne.mpr c15
            have c15b2 : (x0_2.size == x1_8.size) = false := by first | simpa using c15 | (simp at c15 ⊢; omega)
            replace H := Option.bind_eq_some_iff.mp H
            obtain ⟨t188, A170, H⟩ := H
            replace H : (some t188) = some r := H
            have A17 := Aside0.mk A170
            clear A170
            obtain rfl := Option.some.inj H
            go_wp2_with (first | ((with_reducible refine gate_callee (f := 29) rfl ?_); refine goesL_ (some 34) rfl rfl Tryz.func29 (by kernel_rfl) rfl #[.int .i64 (x0_2.size : Int), .int .i64 (x1_8.size : Int)] rfl (by (try simp only [List.map_toArray, List.map_cons, List.map_nil]); first | done | rfl | (simp only [List.length_drop, List.length_take]; rfl)) ?_; (with_reducible refine (spec_orderInts.calls (x0_2.size : Int) (x1_8.size : Int) t188 _ A17.out).mono ?_); rintro e w' ⟨rfl, ⟨nd, rfl⟩⟩; refine ⟨_, rfl, ?_⟩))
            go_ret
            exact ⟨by first | rfl | (simp; done) | (simp [*]; done) | (simp [bne_nil_]; done), by repeat (first | exact Drawn0.refl _ | apply Drawn0.step)⟩

/-! ### spec_pageOne: function 30 -/
def spec_pageOne.j0 : Nat → ByteArray → ByteArray → Bool → Bool → Bool → Option (Int)
  | 0, _, _, _, _, _ => none
  | k + 1, x0, x1, x5, x6, x11 => if x11 = true then ((spec_orderNumbers.f k x0 x1).bind fun t191 => (some t191)) else (if x5 = true then (some (-1)) else (if x6 = true then (some 1) else ((Giv.spec_order.f x0 x1).bind fun t192 => (some t192))))
def spec_pageOne.f (k : Nat) (a0 : ByteArray) (a1 : ByteArray) : Option (Int) := (spec_allDigits.f k a0).bind fun t189 => ((spec_allDigits.f k a1).bind fun t190 => (if t189 = true then (spec_pageOne.j0 k a0 a1 t189 t190 t190) else (spec_pageOne.j0 k a0 a1 t189 t190 false)))
theorem spec_pageOne.mono_l : ∀ k, (∀ y0 y1 y2 y3 y4, LeO (spec_pageOne.j0 k y0 y1 y2 y3 y4) (spec_pageOne.j0 (k + 1) y0 y1 y2 y3 y4))
  | 0 => fun _ _ _ _ _ r h => by simp [spec_pageOne.j0] at h
  | k + 1 => by
    have ih0 := spec_pageOne.mono_l k
    · intro y0 y1 y2 y3 y4
      unfold spec_pageOne.j0
      repeat' first
      | (with_reducible exact ih0 _ _ _ _ _)
      | (with_reducible exact spec_allDigits.mono _ _)
      | (with_reducible exact spec_orderNumbers.mono _ _ _)
      | (with_reducible exact LeO.refl _)
      | (with_reducible exact LeO.none _)
      | (with_reducible refine LeO.ite ?_ ?_)
      | (with_reducible refine LeO.bind ?_ (fun _ => ?_))
      | exact ih0 _ _ _ _ _
      | exact spec_allDigits.mono _ _
      | exact spec_orderNumbers.mono _ _ _
      | exact LeO.none _
      | refine LeO.ite ?_ ?_
      | refine LeO.bind ?_ (fun _ => ?_)
theorem spec_pageOne.mono : ∀ a0 a1 k, LeO (spec_pageOne.f k a0 a1) (spec_pageOne.f (k + 1) a0 a1) := by
  intro a0 a1 k
  have ih0 := spec_pageOne.mono_l k
  unfold spec_pageOne.f
  repeat' first
      | (with_reducible exact ih0 _ _ _ _ _)
      | (with_reducible exact spec_allDigits.mono _ _)
      | (with_reducible exact spec_orderNumbers.mono _ _ _)
      | (with_reducible exact LeO.refl _)
      | (with_reducible exact LeO.none _)
      | (with_reducible refine LeO.ite ?_ ?_)
      | (with_reducible refine LeO.bind ?_ (fun _ => ?_))
      | exact ih0 _ _ _ _ _
      | exact spec_allDigits.mono _ _
      | exact spec_orderNumbers.mono _ _ _
      | exact LeO.none _
      | refine LeO.ite ?_ ?_
      | refine LeO.bind ?_ (fun _ => ?_)
set_option maxHeartbeats 8000000 in
set_option maxRecDepth 100000 in
theorem spec_pageOne.calls (k : Nat) (a0 : ByteArray) (a1 : ByteArray) (r : Int) (w : World) (h : spec_pageOne.f k a0 a1 = some r) :
    Calls Tryz.prog 30 #[.string a0, .string a1] w fun e w' => e = .returned (.int .i64 r) ∧ Drawn0 w w' := by
  have H : ((spec_allDigits.f k a0).bind fun t189 => ((spec_allDigits.f k a1).bind fun t190 => (if t189 = true then (spec_pageOne.j0 k a0 a1 t189 t190 t190) else (spec_pageOne.j0 k a0 a1 t189 t190 false)))) = some r := h
  clear h
  replace H := Option.bind_eq_some_iff.mp H
  obtain ⟨t189, A30, H⟩ := H
  replace H : ((spec_allDigits.f k a1).bind fun t190 => (if t189 = true then (spec_pageOne.j0 k a0 a1 t189 t190 t190) else (spec_pageOne.j0 k a0 a1 t189 t190 false))) = some r := H
  have A3 := Aside0.mk A30
  clear A30
  replace H := Option.bind_eq_some_iff.mp H
  obtain ⟨t190, A40, H⟩ := H
  replace H : (if t189 = true then (spec_pageOne.j0 k a0 a1 t189 t190 t190) else (spec_pageOne.j0 k a0 a1 t189 t190 false)) = some r := H
  have A4 := Aside0.mk A40
  clear A40
  have HC5 := Aside0.mk H
  clear H
  go_enter Tryz.func30, Tryz.ntmps30
  go_upto_region 2 with (first | ((with_reducible refine gate_callee (f := 53) rfl ?_); refine goesL_ (some 8) rfl rfl Tryz.func53 (by kernel_rfl) rfl #[.string a0] rfl (by (try simp only [List.map_toArray, List.map_cons, List.map_nil]); first | done | rfl | (simp only [List.length_drop, List.length_take]; rfl)) ?_; (with_reducible refine (spec_allDigits.calls k a0 t189 _ A3.out).mono ?_); rintro e w' ⟨rfl, ⟨nd, rfl⟩⟩; refine ⟨_, rfl, ?_⟩) | ((with_reducible refine gate_callee (f := 53) rfl ?_); refine goesL_ (some 10) rfl rfl Tryz.func53 (by kernel_rfl) rfl #[.string a1] rfl (by (try simp only [List.map_toArray, List.map_cons, List.map_nil]); first | done | rfl | (simp only [List.length_drop, List.length_take]; rfl)) ?_; (with_reducible refine (spec_allDigits.calls k a1 t190 _ A4.out).mono ?_); rintro e w' ⟨rfl, ⟨nd, rfl⟩⟩; refine ⟨_, rfl, ?_⟩))
  (try simp only [Act.put, List.setIfInBounds_toArray, List.set_cons_zero, List.set_cons_succ])
  go_cut [11] (fun v11 wc => ∃ (kq : Nat) (x11_4 : Bool), v11 = .bool x11_4 ∧ Aside0 (spec_pageOne.j0 kq a0 a1 t189 t190 x11_4 = some r) ∧ Aside0 (kq ≤ k) ∧ Drawn0 w wc)
  case first =>
    have H := HC5.out
    clear HC5
    by_cases c6 : t189 = true
    · subst c6
      have H1 : (spec_pageOne.j0 k a0 a1 true t190 t190) = some r := by rw [if_pos rfl] at H; exact H
      clear H
      have H := H1
      clear H1
      have H' := Aside0.mk H
      clear H
      go_wp2
      go_meet
      case rel => exact ⟨_, (t190), (by first | rfl | (simp; done) | (simp [*]; done) | (simp [bne_nil_]; done)), H', ⟨by first | omega | exact Nat.le_refl _⟩, by repeat (first | exact Drawn0.refl _ | apply Drawn0.step)⟩
    · replace c6 := Bool.eq_false_iff.mpr c6
      subst c6
      have H1 : (spec_pageOne.j0 k a0 a1 false t190 false) = some r := by rw [if_neg (show ¬ (false = true) by decide)] at H; exact H
      clear H
      have H := H1
      clear H1
      have H' := Aside0.mk H
      clear H
      go_wp2
      go_meet
      case rel => exact ⟨_, (false), (by first | rfl | (simp; done) | (simp [*]; done) | (simp [bne_nil_]; done)), H', ⟨by first | omega | exact Nat.le_refl _⟩, by repeat (first | exact Drawn0.refl _ | apply Drawn0.step)⟩
  case rest =>
    clear HC5
    try clear p2
    try clear c3
    try clear c5
    try clear c6
    obtain ⟨kq, x11_4, rfl, HA, HJ4, ⟨mc4, rfl⟩⟩ := hcut
    cases kq with
    | zero => exact absurd HA.out (by simp [spec_pageOne.j0])
    | succ kj4 =>
      have H := HA.out
      clear HA
      simp only [spec_pageOne.j0] at H
      by_cases c7 : x11_4 = true
      · subst c7
        have H1 : ((spec_orderNumbers.f kj4 a0 a1).bind fun t191 => (some t191)) = some r := by rw [if_pos rfl] at H; exact H
        clear H
        have H := H1
        clear H1
        replace H := Option.bind_eq_some_iff.mp H
        obtain ⟨t191, A80, H⟩ := H
        replace H : (some t191) = some r := H
        have A8 := Aside0.mk A80
        clear A80
        obtain rfl := Option.some.inj H
        go_wp2_with (first | ((with_reducible refine gate_callee (f := 28) rfl ?_); refine goesL_ (some 18) rfl rfl Tryz.func28 (by kernel_rfl) rfl #[.string a0, .string a1] rfl (by (try simp only [List.map_toArray, List.map_cons, List.map_nil]); first | done | rfl | (simp only [List.length_drop, List.length_take]; rfl)) ?_; (with_reducible refine (spec_orderNumbers.calls kj4 a0 a1 t191 _ A8.out).mono ?_); rintro e w' ⟨rfl, ⟨nd, rfl⟩⟩; refine ⟨_, rfl, ?_⟩))
        go_ret
        exact ⟨by first | rfl | (simp; done) | (simp [*]; done) | (simp [bne_nil_]; done), by repeat (first | exact Drawn0.refl _ | apply Drawn0.step)⟩
      · replace c7 := Bool.eq_false_iff.mpr c7
        subst c7
        have H1 : (if t189 = true then (some (-1)) else (if t190 = true then (some 1) else ((Giv.spec_order.f a0 a1).bind fun t192 => (some t192)))) = some r := by rw [if_neg (show ¬ (false = true) by decide)] at H; exact H
        clear H
        have H := H1
        clear H1
        by_cases c9 : t189 = true
        · subst c9
          have H1 : (some (-1)) = some r := by rw [if_pos rfl] at H; exact H
          clear H
          have H := H1
          clear H1
          obtain rfl := Option.some.inj H
          go_wp2
          go_ret
          exact ⟨by first | rfl | (simp; done) | (simp [*]; done) | (simp [bne_nil_]; done), by repeat (first | exact Drawn0.refl _ | apply Drawn0.step)⟩
        · replace c9 := Bool.eq_false_iff.mpr c9
          subst c9
          have H1 : (if t190 = true then (some 1) else ((Giv.spec_order.f a0 a1).bind fun t192 => (some t192))) = some r := by rw [if_neg (show ¬ (false = true) by decide)] at H; exact H
          clear H
          have H := H1
          clear H1
          by_cases c10 : t190 = true
          · subst c10
            have H1 : (some 1) = some r := by rw [if_pos rfl] at H; exact H
            clear H
            have H := H1
            clear H1
            obtain rfl := Option.some.inj H
            go_wp2
            go_ret
            exact ⟨by first | rfl | (simp; done) | (simp [*]; done) | (simp [bne_nil_]; done), by repeat (first | exact Drawn0.refl _ | apply Drawn0.step)⟩
          · replace c10 := Bool.eq_false_iff.mpr c10
            subst c10
            have H1 : ((Giv.spec_order.f a0 a1).bind fun t192 => (some t192)) = some r := by rw [if_neg (show ¬ (false = true) by decide)] at H; exact H
            clear H
            have H := H1
            clear H1
            replace H := Option.bind_eq_some_iff.mp H
            obtain ⟨t192, A110, H⟩ := H
            replace H : (some t192) = some r := H
            have A11 := Aside0.mk A110
            clear A110
            obtain rfl := Option.some.inj H
            go_wp2_with (first | ((with_reducible refine gate_callee (f := 54) rfl ?_); refine goesL_ (some 25) rfl rfl Tryz.func54 (by kernel_rfl) rfl #[.string a0, .string a1] rfl (by (try simp only [List.map_toArray, List.map_cons, List.map_nil]); first | done | rfl | (simp only [List.length_drop, List.length_take]; rfl)) ?_; (with_reducible refine (Giv.spec_order.calls a0 a1 t192 _ A11.out).mono ?_); rintro e w' ⟨rfl, ⟨nd, rfl⟩⟩; refine ⟨_, rfl, ?_⟩))
            go_ret
            exact ⟨by first | rfl | (simp; done) | (simp [*]; done) | (simp [bne_nil_]; done), by repeat (first | exact Drawn0.refl _ | apply Drawn0.step)⟩

/-! ### spec_Identifiers: function 80 -/
mutual
def spec_Identifiers.l0 : Nat → List ByteArray → List ByteArray → Int → Option (Int)
  | 0, _, _, _ => none
  | k + 1, x0, x1, x5 => if x5 < (x0.length : Int) then (spec_Identifiers.j1 k x0 x1 x5 (decide (x5 < (x1.length : Int)))) else (spec_Identifiers.j1 k x0 x1 x5 false)
def spec_Identifiers.j1 : Nat → List ByteArray → List ByteArray → Int → Bool → Option (Int)
  | 0, _, _, _, _ => none
  | k + 1, x0, x1, x5, x16 => if x16 = true then (if 0 ≤ x5 then (if x5 < (x0.length : Int) then (if x5 < (x1.length : Int) then ((spec_pageOne.f k (rdOf ByteArray.empty x0 x5) (rdOf ByteArray.empty x1 x5)).bind fun t195 => (if t195 = 0 then (spec_Identifiers.l0 k x0 x1 (wrap64 (x5 + 1))) else (some t195))) else (none)) else (none)) else (none)) else ((spec_orderInts.f (x0.length : Int) (x1.length : Int)).bind fun t196 => (some t196))
end
def spec_Identifiers.f (k : Nat) (l0 : List ByteArray) (l1 : List ByteArray) : Option (Int) := spec_Identifiers.l0 k l0 l1 0
theorem spec_Identifiers.mono_l : ∀ k, (∀ y0 y1 y2, LeO (spec_Identifiers.l0 k y0 y1 y2) (spec_Identifiers.l0 (k + 1) y0 y1 y2)) ∧ (∀ y0 y1 y2 y3, LeO (spec_Identifiers.j1 k y0 y1 y2 y3) (spec_Identifiers.j1 (k + 1) y0 y1 y2 y3))
  | 0 => ⟨fun _ _ _ r h => by simp [spec_Identifiers.l0] at h, fun _ _ _ _ r h => by simp [spec_Identifiers.j1] at h⟩
  | k + 1 => by
    obtain ⟨ih0, ih1⟩ := spec_Identifiers.mono_l k
    refine ⟨?_, ?_⟩
    · intro y0 y1 y2
      unfold spec_Identifiers.l0
      repeat' first
      | (with_reducible exact ih0 _ _ _)
      | (with_reducible exact ih1 _ _ _ _)
      | (with_reducible exact spec_pageOne.mono _ _ _)
      | (with_reducible exact LeO.refl _)
      | (with_reducible exact LeO.none _)
      | (with_reducible refine LeO.ite ?_ ?_)
      | (with_reducible refine LeO.bind ?_ (fun _ => ?_))
      | exact ih0 _ _ _
      | exact ih1 _ _ _ _
      | exact spec_pageOne.mono _ _ _
      | exact LeO.none _
      | refine LeO.ite ?_ ?_
      | refine LeO.bind ?_ (fun _ => ?_)
    · intro y0 y1 y2 y3
      unfold spec_Identifiers.j1
      repeat' first
      | (with_reducible exact ih0 _ _ _)
      | (with_reducible exact ih1 _ _ _ _)
      | (with_reducible exact spec_pageOne.mono _ _ _)
      | (with_reducible exact LeO.refl _)
      | (with_reducible exact LeO.none _)
      | (with_reducible refine LeO.ite ?_ ?_)
      | (with_reducible refine LeO.bind ?_ (fun _ => ?_))
      | exact ih0 _ _ _
      | exact ih1 _ _ _ _
      | exact spec_pageOne.mono _ _ _
      | exact LeO.none _
      | refine LeO.ite ?_ ?_
      | refine LeO.bind ?_ (fun _ => ?_)
theorem spec_Identifiers.mono : ∀ a0 a1 k, LeO (spec_Identifiers.f k a0 a1) (spec_Identifiers.f (k + 1) a0 a1) := by
  intro a0 a1 k
  obtain ⟨ih0, ih1⟩ := spec_Identifiers.mono_l k
  unfold spec_Identifiers.f
  repeat' first
      | (with_reducible exact ih0 _ _ _)
      | (with_reducible exact ih1 _ _ _ _)
      | (with_reducible exact spec_pageOne.mono _ _ _)
      | (with_reducible exact LeO.refl _)
      | (with_reducible exact LeO.none _)
      | (with_reducible refine LeO.ite ?_ ?_)
      | (with_reducible refine LeO.bind ?_ (fun _ => ?_))
      | exact ih0 _ _ _
      | exact ih1 _ _ _ _
      | exact spec_pageOne.mono _ _ _
      | exact LeO.none _
      | refine LeO.ite ?_ ?_
      | refine LeO.bind ?_ (fun _ => ?_)
set_option maxHeartbeats 8000000 in
set_option maxRecDepth 100000 in
theorem spec_Identifiers.calls (k : Nat) (A0 : Option Addr) (c0 : Nat) (l0 : List ByteArray) (A1 : Option Addr) (c1 : Nat) (l1 : List ByteArray) (r : Int) (w : World) (hr0 : Kd.C Kd.string w A0 l0.length l0) (hc0 : l0.length ≤ c0) (hr1 : Kd.C Kd.string w A1 l1.length l1) (hc1 : l1.length ≤ c1) (h : spec_Identifiers.f k l0 l1 = some r) :
    Calls Tryz.prog 80 #[.slice A0 l0.length c0, .slice A1 l1.length c1] w fun e w' => e = .returned (.int .i64 r) ∧ Drawn0 w w' := by
  have HR0 := Aside0.mk hr0
  have HC0 := Aside0.mk hc0
  clear hr0 hc0
  have HR1 := Aside0.mk hr1
  have HC1 := Aside0.mk hc1
  clear hr1 hc1
  have H : (spec_Identifiers.l0 k l0 l1 0) = some r := h
  clear h
  have H' := Aside0.mk H
  clear H
  go_enter Tryz.func80, Tryz.ntmps80
  go_wp2
  repeat (go_quiet (fail); try go_wp2)
  go_loopg [5] k (fun kq v5 w' => ∃ (x5_1 : Int), v5 = .int .i64 x5_1 ∧ Aside0 (spec_Identifiers.l0 kq l0 l1 x5_1 = some r) ∧ Aside0 (kq ≤ k) ∧ Drawn0 w w')
  case atStart => exact ⟨(0), (by first | rfl | (simp; done) | (simp [*]; done) | (simp [bne_nil_]; done)), H', ⟨Nat.le_refl _⟩, by repeat (first | exact Drawn0.refl _ | apply Drawn0.step)⟩
  case round =>
    clear H'
    try clear c1
    try clear p2
    obtain ⟨x5_1, rfl, HA, HK1, ⟨m1, rfl⟩⟩ := hrel
    cases gk with
    | zero => exact absurd HA.out (by simp [spec_Identifiers.l0])
    | succ k1 =>
      have H := HA.out
      clear HA
      simp only [spec_Identifiers.l0] at H
      have HC3 := Aside0.mk H
      clear H
      go_upto_region 2 with (fail)
      repeat (go_quiet (fail); go_upto_region 2 with (fail))
      go_cut [16] (fun v16 wc => ∃ (kq : Nat) (x16_2 : Bool), v16 = .bool x16_2 ∧ Aside0 (spec_Identifiers.j1 kq l0 l1 x5_1 x16_2 = some r) ∧ Aside0 (kq ≤ k1) ∧ Drawn0 w wc)
      case first =>
        have H := HC3.out
        clear HC3
        by_cases c4 : x5_1 < (l0.length : Int)
        · rw [if_pos c4] at H
          have c4b0 : decide (x5_1 < (l0.length : Int)) = true := decide_eq_true c4
          clear c4
          (first | rw [c4b0] | (simp only [i64_w, i32_w]; rw [c4b0]) | skip)
          have H' := Aside0.mk H
          clear H
          go_wp2
          repeat (go_quiet (fail); try go_wp2)
          go_meet
          case rel => exact ⟨_, (decide (x5_1 < (l1.length : Int))), (by first | rfl | (simp; done) | (simp [*]; done) | (simp [bne_nil_]; done)), H', ⟨by have := HK1.out; first | omega | exact Nat.le_refl _⟩, by repeat (first | exact Drawn0.refl _ | apply Drawn0.step)⟩
        · rw [if_neg c4] at H
          have c4b0 : decide (x5_1 < (l0.length : Int)) = false := decide_eq_false c4
          clear c4
          (first | rw [c4b0] | (simp only [i64_w, i32_w]; rw [c4b0]) | skip)
          have H' := Aside0.mk H
          clear H
          go_wp2
          repeat (go_quiet (fail); try go_wp2)
          go_meet
          case rel => exact ⟨_, (false), (by first | rfl | (simp; done) | (simp [*]; done) | (simp [bne_nil_]; done)), H', ⟨by have := HK1.out; first | omega | exact Nat.le_refl _⟩, by repeat (first | exact Drawn0.refl _ | apply Drawn0.step)⟩
      case rest =>
        clear HC3
        try clear c1
        try clear p2
        try clear c4
        try clear c4b0
        try clear p2
        obtain ⟨kq, x16_2, rfl, HA, HJ2, ⟨mc2, rfl⟩⟩ := hcut
        cases kq with
        | zero => exact absurd HA.out (by simp [spec_Identifiers.j1])
        | succ kj2 =>
          have H := HA.out
          clear HA
          simp only [spec_Identifiers.j1] at H
          by_cases c5 : x16_2 = true
          · subst c5
            have H1 : (if 0 ≤ x5_1 then (if x5_1 < (l0.length : Int) then (if x5_1 < (l1.length : Int) then ((spec_pageOne.f kj2 (rdOf ByteArray.empty l0 x5_1) (rdOf ByteArray.empty l1 x5_1)).bind fun t195 => (if t195 = 0 then (spec_Identifiers.l0 kj2 l0 l1 (wrap64 (x5_1 + 1))) else (some t195))) else (none)) else (none)) else (none)) = some r := by rw [if_pos rfl] at H; exact H
            clear H
            have H := H1
            clear H1
            by_cases c6 : 0 ≤ x5_1
            · rw [if_pos c6] at H
              have c6b0 : decide (0 ≤ x5_1) = true := decide_eq_true c6
              clear c6
              by_cases c7 : x5_1 < (l0.length : Int)
              · rw [if_pos c7] at H
                have c7b0 : decide (x5_1 < (l0.length : Int)) = true := decide_eq_true c7
                clear c7
                by_cases c8 : x5_1 < (l1.length : Int)
                · rw [if_pos c8] at H
                  have c8b0 : decide (x5_1 < (l1.length : Int)) = true := decide_eq_true c8
                  clear c8
                  replace H := Option.bind_eq_some_iff.mp H
                  obtain ⟨t195, A90, H⟩ := H
                  replace H : (if t195 = 0 then (spec_Identifiers.l0 kj2 l0 l1 (wrap64 (x5_1 + 1))) else (some t195)) = some r := H
                  have A9 := Aside0.mk A90
                  clear A90
                  by_cases c10 : t195 = 0
                  · rw [if_pos c10] at H
                    have c10b0 : (t195 == 0) = true := beq_iff_eq.mpr c10
                    have c10b1 : (t195 != 0) = false := bne_eq_false_iff_eq.mpr c10
                    clear c10
                    have H' := Aside0.mk H
                    clear H
                    have p193 : 0 ≤ (x5_1 : Int) := of_decide_eq_true (by first | (with_reducible assumption) | assumption)
                    have q193 : x5_1 < (l0.length : Int) := of_decide_eq_true (by first | (with_reducible assumption) | assumption)
                    obtain ⟨ad193, e193, hx193_0⟩ := Kd.at_string HR0.out x5_1 p193 q193
                    cases e193
                    replace p193 := eq_true p193
                    replace q193 := eq_true q193
                    have p194 : 0 ≤ (x5_1 : Int) := of_decide_eq_true (by first | (with_reducible assumption) | assumption)
                    have q194 : x5_1 < (l1.length : Int) := of_decide_eq_true (by first | (with_reducible assumption) | assumption)
                    obtain ⟨ad194, e194, hx194_0⟩ := Kd.at_string HR1.out x5_1 p194 q194
                    cases e194
                    replace p194 := eq_true p194
                    replace q194 := eq_true q194
                    go_wp2_with (first | (go_at_call 30; (with_reducible refine (spec_pageOne.calls kj2 (rdOf ByteArray.empty l0 x5_1) (rdOf ByteArray.empty l1 x5_1) t195 _ A9.out).mono ?_); rintro e w' ⟨rfl, ⟨nd, rfl⟩⟩; (try first | exact ⟨rfl, _, World.drewN_drewN _ _ _⟩ | exact ⟨rfl, _, Eq.trans (World.drewN_drewN _ _ _) (congrArg (World.drewN _) (Nat.add_assoc _ _ _))⟩)))
                    repeat (go_quiet (first | (go_at_call 30; (with_reducible refine (spec_pageOne.calls kj2 (rdOf ByteArray.empty l0 x5_1) (rdOf ByteArray.empty l1 x5_1) t195 _ A9.out).mono ?_); rintro e w' ⟨rfl, ⟨nd, rfl⟩⟩; (try first | exact ⟨rfl, _, World.drewN_drewN _ _ _⟩ | exact ⟨rfl, _, Eq.trans (World.drewN_drewN _ _ _) (congrArg (World.drewN _) (Nat.add_assoc _ _ _))⟩))); try go_wp2_with (first | (go_at_call 30; (with_reducible refine (spec_pageOne.calls kj2 (rdOf ByteArray.empty l0 x5_1) (rdOf ByteArray.empty l1 x5_1) t195 _ A9.out).mono ?_); rintro e w' ⟨rfl, ⟨nd, rfl⟩⟩; (try first | exact ⟨rfl, _, World.drewN_drewN _ _ _⟩ | exact ⟨rfl, _, Eq.trans (World.drewN_drewN _ _ _) (congrArg (World.drewN _) (Nat.add_assoc _ _ _))⟩))))
                    go_roundg kj2
                    case measure => have := HK1.out; have := HJ2.out; omega
                    case rel => exact ⟨(wrap64 (x5_1 + 1)), (by first | rfl | (simp; done) | (simp [*]; done) | (simp [bne_nil_]; done)), H', ⟨by have := HK1.out; have := HJ2.out; omega⟩, by repeat (first | exact Drawn0.refl _ | apply Drawn0.step)⟩
                  · rw [if_neg c10] at H
                    have c10b0 : (t195 == 0) = false := beq_eq_false_iff_ne.mpr c10
                    have c10b1 : (t195 != 0) = true := bne_iff_ne.mpr c10
                    obtain rfl := Option.some.inj H
                    have p193 : 0 ≤ (x5_1 : Int) := of_decide_eq_true (by first | (with_reducible assumption) | assumption)
                    have q193 : x5_1 < (l0.length : Int) := of_decide_eq_true (by first | (with_reducible assumption) | assumption)
                    obtain ⟨ad193, e193, hx193_0⟩ := Kd.at_string HR0.out x5_1 p193 q193
                    cases e193
                    replace p193 := eq_true p193
                    replace q193 := eq_true q193
                    have p194 : 0 ≤ (x5_1 : Int) := of_decide_eq_true (by first | (with_reducible assumption) | assumption)
                    have q194 : x5_1 < (l1.length : Int) := of_decide_eq_true (by first | (with_reducible assumption) | assumption)
                    obtain ⟨ad194, e194, hx194_0⟩ := Kd.at_string HR1.out x5_1 p194 q194
                    cases e194
                    replace p194 := eq_true p194
                    replace q194 := eq_true q194
                    go_wp2_with (first | (go_at_call 30; (with_reducible refine (spec_pageOne.calls kj2 (rdOf ByteArray.empty l0 x5_1) (rdOf ByteArray.empty l1 x5_1) t195 _ A9.out).mono ?_); rintro e w' ⟨rfl, ⟨nd, rfl⟩⟩; (try first | exact ⟨rfl, _, World.drewN_drewN _ _ _⟩ | exact ⟨rfl, _, Eq.trans (World.drewN_drewN _ _ _) (congrArg (World.drewN _) (Nat.add_assoc _ _ _))⟩)))
                    repeat (go_quiet (first | (go_at_call 30; (with_reducible refine (spec_pageOne.calls kj2 (rdOf ByteArray.empty l0 x5_1) (rdOf ByteArray.empty l1 x5_1) t195 _ A9.out).mono ?_); rintro e w' ⟨rfl, ⟨nd, rfl⟩⟩; (try first | exact ⟨rfl, _, World.drewN_drewN _ _ _⟩ | exact ⟨rfl, _, Eq.trans (World.drewN_drewN _ _ _) (congrArg (World.drewN _) (Nat.add_assoc _ _ _))⟩))); try go_wp2_with (first | (go_at_call 30; (with_reducible refine (spec_pageOne.calls kj2 (rdOf ByteArray.empty l0 x5_1) (rdOf ByteArray.empty l1 x5_1) t195 _ A9.out).mono ?_); rintro e w' ⟨rfl, ⟨nd, rfl⟩⟩; (try first | exact ⟨rfl, _, World.drewN_drewN _ _ _⟩ | exact ⟨rfl, _, Eq.trans (World.drewN_drewN _ _ _) (congrArg (World.drewN _) (Nat.add_assoc _ _ _))⟩))))
                    go_ret
                    exact ⟨by first | rfl | (simp; done) | (simp [*]; done) | (simp [bne_nil_]; done), by repeat (first | exact Drawn0.refl _ | apply Drawn0.step)⟩
                · rw [if_neg c8] at H
                  exact absurd H (by simp)
              · rw [if_neg c7] at H
                exact absurd H (by simp)
            · rw [if_neg c6] at H
              exact absurd H (by simp)
          · replace c5 := Bool.eq_false_iff.mpr c5
            subst c5
            have H1 : ((spec_orderInts.f (l0.length : Int) (l1.length : Int)).bind fun t196 => (some t196)) = some r := by rw [if_neg (show ¬ (false = true) by decide)] at H; exact H
            clear H
            have H := H1
            clear H1
            replace H := Option.bind_eq_some_iff.mp H
            obtain ⟨t196, A110, H⟩ := H
            replace H : (some t196) = some r := H
            have A11 := Aside0.mk A110
            clear A110
            obtain rfl := Option.some.inj H
            go_wp2_with (first | (go_at_call 29; (with_reducible refine (spec_orderInts.calls (l0.length : Int) (l1.length : Int) t196 _ A11.out).mono ?_); rintro e w' ⟨rfl, ⟨nd, rfl⟩⟩; (try first | exact ⟨rfl, _, World.drewN_drewN _ _ _⟩ | exact ⟨rfl, _, Eq.trans (World.drewN_drewN _ _ _) (congrArg (World.drewN _) (Nat.add_assoc _ _ _))⟩)))
            repeat (go_quiet (first | (go_at_call 29; (with_reducible refine (spec_orderInts.calls (l0.length : Int) (l1.length : Int) t196 _ A11.out).mono ?_); rintro e w' ⟨rfl, ⟨nd, rfl⟩⟩; (try first | exact ⟨rfl, _, World.drewN_drewN _ _ _⟩ | exact ⟨rfl, _, Eq.trans (World.drewN_drewN _ _ _) (congrArg (World.drewN _) (Nat.add_assoc _ _ _))⟩))); try go_wp2_with (first | (go_at_call 29; (with_reducible refine (spec_orderInts.calls (l0.length : Int) (l1.length : Int) t196 _ A11.out).mono ?_); rintro e w' ⟨rfl, ⟨nd, rfl⟩⟩; (try first | exact ⟨rfl, _, World.drewN_drewN _ _ _⟩ | exact ⟨rfl, _, Eq.trans (World.drewN_drewN _ _ _) (congrArg (World.drewN _) (Nat.add_assoc _ _ _))⟩))))
            go_ret
            exact ⟨by first | rfl | (simp; done) | (simp [*]; done) | (simp [bne_nil_]; done), by repeat (first | exact Drawn0.refl _ | apply Drawn0.step)⟩

/-! ### spec_Builds: function 61 -/
def spec_Builds.j0 : Nat → List ByteArray → List ByteArray → Bool → Option (Int)
  | 0, _, _, _ => none
  | k + 1, x5, x6, x18 => if x18 = true then ((spec_orderInts.f (mn (x6.length : Int) 1) (mn (x5.length : Int) 1)).bind fun t203 => (some t203)) else ((spec_Identifiers.f k x5 x6).bind fun t204 => (some t204))
def spec_Builds.f (k : Nat) (a0 : ByteArray) (a1 : ByteArray) : Option (Int) := (Giv.spec_likeIdentifiers.f a0).bind fun t197 => ((Giv.spec_likeIdentifiers.f a1).bind fun t200 => (if (t197.length : Int) = 0 then (spec_Builds.j0 k t197 t200 true) else (spec_Builds.j0 k t197 t200 ((t200.length : Int) == 0))))
theorem spec_Builds.mono_l : ∀ k, (∀ y0 y1 y2, LeO (spec_Builds.j0 k y0 y1 y2) (spec_Builds.j0 (k + 1) y0 y1 y2))
  | 0 => fun _ _ _ r h => by simp [spec_Builds.j0] at h
  | k + 1 => by
    have ih0 := spec_Builds.mono_l k
    · intro y0 y1 y2
      unfold spec_Builds.j0
      repeat' first
      | (with_reducible exact ih0 _ _ _)
      | (with_reducible exact spec_Identifiers.mono _ _ _)
      | (with_reducible exact LeO.refl _)
      | (with_reducible exact LeO.none _)
      | (with_reducible refine LeO.ite ?_ ?_)
      | (with_reducible refine LeO.bind ?_ (fun _ => ?_))
      | exact ih0 _ _ _
      | exact spec_Identifiers.mono _ _ _
      | exact LeO.none _
      | refine LeO.ite ?_ ?_
      | refine LeO.bind ?_ (fun _ => ?_)
theorem spec_Builds.mono : ∀ a0 a1 k, LeO (spec_Builds.f k a0 a1) (spec_Builds.f (k + 1) a0 a1) := by
  intro a0 a1 k
  have ih0 := spec_Builds.mono_l k
  unfold spec_Builds.f
  repeat' first
      | (with_reducible exact ih0 _ _ _)
      | (with_reducible exact spec_Identifiers.mono _ _ _)
      | (with_reducible exact LeO.refl _)
      | (with_reducible exact LeO.none _)
      | (with_reducible refine LeO.ite ?_ ?_)
      | (with_reducible refine LeO.bind ?_ (fun _ => ?_))
      | exact ih0 _ _ _
      | exact spec_Identifiers.mono _ _ _
      | exact LeO.none _
      | refine LeO.ite ?_ ?_
      | refine LeO.bind ?_ (fun _ => ?_)
set_option maxHeartbeats 8000000 in
set_option maxRecDepth 100000 in
theorem spec_Builds.calls (k : Nat) (a0 : ByteArray) (a1 : ByteArray) (r : Int) (w : World) (h : spec_Builds.f k a0 a1 = some r) :
    Calls Tryz.prog 61 #[.string a0, .string a1] w fun e w' => e = .returned (.int .i64 r) ∧ Below w.heap.size w w' := by
  have HB := Aside0.mk (Below.refl w.heap.size w)
  have H : ((Giv.spec_likeIdentifiers.f a0).bind fun t197 => ((Giv.spec_likeIdentifiers.f a1).bind fun t200 => (if (t197.length : Int) = 0 then (spec_Builds.j0 k t197 t200 true) else (spec_Builds.j0 k t197 t200 ((t200.length : Int) == 0))))) = some r := h
  clear h
  replace H := Option.bind_eq_some_iff.mp H
  obtain ⟨t197, A30, H⟩ := H
  replace H : ((Giv.spec_likeIdentifiers.f a1).bind fun t200 => (if (t197.length : Int) = 0 then (spec_Builds.j0 k t197 t200 true) else (spec_Builds.j0 k t197 t200 ((t200.length : Int) == 0)))) = some r := H
  have A3 := Aside0.mk A30
  clear A30
  replace H := Option.bind_eq_some_iff.mp H
  obtain ⟨t200, A40, H⟩ := H
  replace H : (if (t197.length : Int) = 0 then (spec_Builds.j0 k t197 t200 true) else (spec_Builds.j0 k t197 t200 ((t200.length : Int) == 0))) = some r := H
  have A4 := Aside0.mk A40
  clear A40
  have HC5 := Aside0.mk H
  clear H
  go_enter Tryz.func61, Tryz.ntmps61
  go_upto_region 2 with (first | ((with_reducible refine gate_callee (f := 78) rfl ?_); refine goesL_ (some 8) rfl rfl Tryz.func78 (by kernel_rfl) rfl #[.string a0] rfl (by (try simp only [List.map_toArray, List.map_cons, List.map_nil]); first | done | rfl | (simp only [List.length_drop, List.length_take]; rfl)) ?_; (with_reducible refine (Giv.spec_likeIdentifiers.calls a0 t197 _ A3.out).mono ?_); rintro e w6 ⟨v198, rfl, ho0, hb⟩; refine ⟨_, rfl, ?_⟩; have n0_ := Aside0.mk (Kd.R_lower ho0 (below_size (by repeat (first | (with_reducible first | exact HB.out | apply below_alloc | apply pw_below_drewN | apply below_drew1) | exact HB.out)))); have n1_ := Aside0.mk (below_step (by repeat (first | (with_reducible first | exact HB.out | apply below_alloc | apply pw_below_drewN | apply below_drew1) | exact HB.out)) hb); clear HB; have HO199 := n0_; have HB := n1_; clear n0_ n1_; (try clear hb); (try clear hb2); (try clear hk); (try clear hi); (try clear ho0)) | ((with_reducible refine gate_callee (f := 78) rfl ?_); refine goesL_ (some 10) rfl rfl Tryz.func78 (by kernel_rfl) rfl #[.string a1] rfl (by (try simp only [List.map_toArray, List.map_cons, List.map_nil]); first | done | rfl | (simp only [List.length_drop, List.length_take]; rfl)) ?_; (with_reducible refine (Giv.spec_likeIdentifiers.calls a1 t200 _ A4.out).mono ?_); rintro e w7 ⟨v201, rfl, ho0, hb⟩; refine ⟨_, rfl, ?_⟩; have n0_ := Aside0.mk (Kd.R_elder' (by (with_reducible repeat (first | apply Kd.R_alloc | apply Kd.R_drewN | apply Kd.R_drew)); exact HO199.out) (Kd.R_base ho0) hb); have n1_ := Aside0.mk (Kd.R_lower (Kd.R_new' ho0 (Kd.R_lt (by (with_reducible repeat (first | apply Kd.R_alloc | apply Kd.R_drewN | apply Kd.R_drew)); exact HO199.out))) (below_size (by repeat (first | (with_reducible first | exact HB.out | apply below_alloc | apply pw_below_drewN | apply below_drew1) | exact HB.out)))); have n2_ := Aside0.mk (below_step (by repeat (first | (with_reducible first | exact HB.out | apply below_alloc | apply pw_below_drewN | apply below_drew1) | exact HB.out)) hb); clear HO199; clear HB; have HO199 := n0_; have HO202 := n1_; have HB := n2_; clear n0_ n1_ n2_; (try clear hb); (try clear hb2); (try clear hk); (try clear hi); (try clear ho0)))
  (try simp only [Act.put, List.setIfInBounds_toArray, List.set_cons_zero, List.set_cons_succ])
  go_cut [18] (fun v18 wc => ∃ (kq : Nat) (x18_4 : Bool), v18 = .bool x18_4 ∧ Aside0 (spec_Builds.j0 kq t197 t200 x18_4 = some r) ∧ Aside0 (kq ≤ k) ∧ Aside0 (Kd.R Kd.string 9 wc w.heap.size (fun k_ => some k_ ≠ (v201 : Value).ownBlock) v198 t197) ∧ Aside0 (Kd.R Kd.string 9 wc w.heap.size (fun k_ => some k_ ≠ (v198 : Value).ownBlock) v201 t200) ∧ Aside0 (Below w.heap.size w wc))
  case first =>
    have H := HC5.out
    clear HC5
    by_cases c8 : (t197.length : Int) = 0
    · rw [if_pos c8] at H
      have c8b0 : ((t197.length : Int) == 0) = true := beq_iff_eq.mpr c8
      have c8b1 : ((t197.length : Int) != 0) = false := bne_eq_false_iff_eq.mpr c8
      clear c8
      (first | rw [c8b0] | (simp only [i64_w, i32_w]; rw [c8b0]) | skip)
      have H' := Aside0.mk H
      clear H
      obtain ⟨Ao9, co9, eo9⟩ := Kd.R_slice HO199.out
      subst eo9
      go_wp2
      go_meet
      case rel => exact ⟨_, (true), (by first | rfl | (simp; done) | (simp [*]; done) | (simp [bne_nil_]; done)), H', ⟨by first | omega | exact Nat.le_refl _⟩, ⟨by (with_reducible repeat (first | apply Kd.R_alloc | apply Kd.R_drewN | apply Kd.R_drew)); exact Kd.R_mono HO199.out (fun _ hk => hk.2)⟩, ⟨by (with_reducible repeat (first | apply Kd.R_alloc | apply Kd.R_drewN | apply Kd.R_drew)); exact Kd.R_mono HO202.out (fun _ hk => hk.2)⟩, ⟨by repeat (first | (with_reducible first | exact HB.out | apply below_alloc | apply pw_below_drewN | apply below_drew1) | exact HB.out)⟩⟩
    · rw [if_neg c8] at H
      have c8b0 : ((t197.length : Int) == 0) = false := beq_eq_false_iff_ne.mpr c8
      have c8b1 : ((t197.length : Int) != 0) = true := bne_iff_ne.mpr c8
      have c8b2 : ¬ (t197 = []) := fun h_ => c8 (by rw [h_]; rfl)
      (first | rw [c8b0] | (simp only [i64_w, i32_w]; rw [c8b0]) | skip)
      have H' := Aside0.mk H
      clear H
      obtain ⟨Ao10, co10, eo10⟩ := Kd.R_slice HO199.out
      subst eo10
      obtain ⟨Ao11, co11, eo11⟩ := Kd.R_slice HO202.out
      subst eo11
      go_wp2
      go_meet
      case rel => exact ⟨_, (((t200.length : Int) == 0)), (by first | rfl | (simp; done) | (simp [*]; done) | (simp [bne_nil_]; done)), H', ⟨by first | omega | exact Nat.le_refl _⟩, ⟨by (with_reducible repeat (first | apply Kd.R_alloc | apply Kd.R_drewN | apply Kd.R_drew)); exact Kd.R_mono HO199.out (fun _ hk => hk.2)⟩, ⟨by (with_reducible repeat (first | apply Kd.R_alloc | apply Kd.R_drewN | apply Kd.R_drew)); exact Kd.R_mono HO202.out (fun _ hk => hk.2)⟩, ⟨by repeat (first | (with_reducible first | exact HB.out | apply below_alloc | apply pw_below_drewN | apply below_drew1) | exact HB.out)⟩⟩
  case rest =>
    clear HC5
    try clear p2
    try clear c6
    try clear c7
    try clear c8
    try clear c8b0
    try clear c8b1
    try clear c8b2
    obtain ⟨kq, x18_4, rfl, HA, HJ4, HO_5, HO_6, HB⟩ := hcut
    cases kq with
    | zero => exact absurd HA.out (by simp [spec_Builds.j0])
    | succ kj4 =>
      have H := HA.out
      clear HA
      simp only [spec_Builds.j0] at H
      by_cases c12 : x18_4 = true
      · subst c12
        have H1 : ((spec_orderInts.f (mn (t200.length : Int) 1) (mn (t197.length : Int) 1)).bind fun t203 => (some t203)) = some r := by rw [if_pos rfl] at H; exact H
        clear H
        have H := H1
        clear H1
        obtain ⟨ji13, hji13⟩ : ∃ j_ : Int, (mn (t200.length : Int) 1) = j_ := ⟨_, rfl⟩
        replace H : ((spec_orderInts.f (ji13) (mn (t197.length : Int) 1)).bind fun t203 => (some t203)) = some r := by first | (rw [hji13] at H; exact H) | (simp only [hji13] at H ⊢; exact H)
        have hji13_ : (if 1 < (t200.length : Int) then 1 else (t200.length : Int)) = ji13 := hji13
        obtain ⟨ji14, hji14⟩ : ∃ j_ : Int, (mn (t197.length : Int) 1) = j_ := ⟨_, rfl⟩
        replace H : ((spec_orderInts.f (ji13) (ji14)).bind fun t203 => (some t203)) = some r := by first | (rw [hji14] at H; exact H) | (simp only [hji14] at H ⊢; exact H)
        have hji14_ : (if 1 < (t197.length : Int) then 1 else (t197.length : Int)) = ji14 := hji14
        replace H := Option.bind_eq_some_iff.mp H
        obtain ⟨t203, A150, H⟩ := H
        replace H : (some t203) = some r := H
        have A15 := Aside0.mk A150
        clear A150
        obtain rfl := Option.some.inj H
        obtain ⟨Ao16, co16, eo16⟩ := Kd.R_slice HO_6.out
        subst eo16
        obtain ⟨Ao17, co17, eo17⟩ := Kd.R_slice HO_5.out
        subst eo17
        go_wp2_with (first | ((with_reducible refine gate_callee (f := 29) rfl ?_); refine goesL_ (some 25) rfl rfl Tryz.func29 (by kernel_rfl) rfl #[.int .i64 ji13, .int .i64 ji14] rfl (by (try simp only [List.map_toArray, List.map_cons, List.map_nil]); first | done | (simp only [hji13, hji14]; rfl) | rfl | (simp only [List.length_drop, List.length_take]; rfl)) ?_; (with_reducible refine (spec_orderInts.calls ji13 ji14 t203 _ A15.out).mono ?_); rintro e w' ⟨rfl, ⟨nd, rfl⟩⟩; refine ⟨_, rfl, ?_⟩))
        go_ret
        exact ⟨by first | rfl | (simp [errW_none, errW_some] <;> rfl) | (simp only [← hji13, ← hji14]; first | rfl | (simp [errW_none, errW_some] <;> rfl)) | (simp [*, errW_none, errW_some] <;> rfl) | (simp [bne_nil_]; done), by repeat (first | (with_reducible first | exact HB.out | apply below_alloc | apply pw_below_drewN | apply below_drew1) | exact HB.out)⟩
      · replace c12 := Bool.eq_false_iff.mpr c12
        subst c12
        have H1 : ((spec_Identifiers.f kj4 t197 t200).bind fun t204 => (some t204)) = some r := by rw [if_neg (show ¬ (false = true) by decide)] at H; exact H
        clear H
        have H := H1
        clear H1
        replace H := Option.bind_eq_some_iff.mp H
        obtain ⟨t204, A180, H⟩ := H
        replace H : (some t204) = some r := H
        have A18 := Aside0.mk A180
        clear A180
        obtain rfl := Option.some.inj H
        obtain ⟨Ao19, co19, eo19⟩ := Kd.R_slice HO_5.out
        subst eo19
        obtain ⟨Ao20, co20, eo20⟩ := Kd.R_slice HO_6.out
        subst eo20
        go_wp2_with (first | ((with_reducible refine gate_callee (f := 80) rfl ?_); refine goesL_ (some 28) rfl rfl Tryz.func80 (by kernel_rfl) rfl #[.slice Ao19 t197.length co19, .slice Ao20 t200.length co20] rfl (by (try simp only [List.map_toArray, List.map_cons, List.map_nil]); first | done | rfl | (simp only [List.length_drop, List.length_take]; rfl)) ?_; (with_reducible refine (spec_Identifiers.calls kj4 _ _ t197 _ _ t200 t204 _ ?side1 ?side2 ?side3 ?side4 A18.out).mono ?_); (case side1 => repeat (first | exact (Kd.R_reads' HO_5.out).2.2 | (with_reducible refine Kd.C_alloc ?_ _) | (with_reducible refine Kd.C_drewN ?_ _) | (with_reducible refine Kd.C_drew ?_))); (case side2 => exact (Kd.R_reads' HO_5.out).2.1); (case side3 => repeat (first | exact (Kd.R_reads' HO_6.out).2.2 | (with_reducible refine Kd.C_alloc ?_ _) | (with_reducible refine Kd.C_drewN ?_ _) | (with_reducible refine Kd.C_drew ?_))); (case side4 => exact (Kd.R_reads' HO_6.out).2.1); rintro e w' ⟨rfl, ⟨nd, rfl⟩⟩; refine ⟨_, rfl, ?_⟩))
        go_ret
        exact ⟨by first | rfl | (simp [errW_none, errW_some] <;> rfl) | (simp [*, errW_none, errW_some] <;> rfl) | (simp [bne_nil_]; done), by repeat (first | (with_reducible first | exact HB.out | apply below_alloc | apply pw_below_drewN | apply below_drew1) | exact HB.out)⟩

/-! ### spec_likeOrder: function 42 -/
def spec_likeOrder.f (k : Nat) (a0_0 : Bool) (l0_1 : List (S64)) (a0_2 : ByteArray) (a0_3 : ByteArray) (a1_0 : Bool) (l1_1 : List (S64)) (a1_2 : ByteArray) (a1_3 : ByteArray) : Option (Int) := (spec_CompareNumbers.f k l0_1 l1_1).bind fun t207 => (if t207 = 0 then ((spec_Builds.f k a0_2 a1_2).bind fun t208 => (some t208)) else (some t207))
theorem spec_likeOrder.mono : ∀ a0 a1 a2 a3 a4 a5 a6 a7 k, LeO (spec_likeOrder.f k a0 a1 a2 a3 a4 a5 a6 a7) (spec_likeOrder.f (k + 1) a0 a1 a2 a3 a4 a5 a6 a7) := by
  intro a0 a1 a2 a3 a4 a5 a6 a7 k
  unfold spec_likeOrder.f
  repeat' first
      | (with_reducible exact spec_Builds.mono _ _ _)
      | (with_reducible exact spec_CompareNumbers.mono _ _ _)
      | (with_reducible exact LeO.refl _)
      | (with_reducible exact LeO.none _)
      | (with_reducible refine LeO.ite ?_ ?_)
      | (with_reducible refine LeO.bind ?_ (fun _ => ?_))
      | exact spec_Builds.mono _ _ _
      | exact spec_CompareNumbers.mono _ _ _
      | exact LeO.none _
      | refine LeO.ite ?_ ?_
      | refine LeO.bind ?_ (fun _ => ?_)
set_option maxHeartbeats 8000000 in
set_option maxRecDepth 100000 in
theorem spec_likeOrder.calls (k : Nat) (a0_0 : Bool) (A0_1 : Option Addr) (c0_1 : Nat) (l0_1 : List (S64)) (a0_2 : ByteArray) (a0_3 : ByteArray) (a1_0 : Bool) (A1_1 : Option Addr) (c1_1 : Nat) (l1_1 : List (S64)) (a1_2 : ByteArray) (a1_3 : ByteArray) (r : Int) (w : World) (hr0_1 : Kd.C k64 w A0_1 l0_1.length l0_1) (hc0_1 : l0_1.length ≤ c0_1) (hr1_1 : Kd.C k64 w A1_1 l1_1.length l1_1) (hc1_1 : l1_1.length ≤ c1_1) (h : spec_likeOrder.f k a0_0 l0_1 a0_2 a0_3 a1_0 l1_1 a1_2 a1_3 = some r) :
    Calls Tryz.prog 42 #[.agg #[.bool a0_0, .slice A0_1 l0_1.length c0_1, .string a0_2, .string a0_3], .agg #[.bool a1_0, .slice A1_1 l1_1.length c1_1, .string a1_2, .string a1_3]] w fun e w' => e = .returned (.int .i64 r) ∧ Below w.heap.size w w' := by
  have hu37 := Tryz.underlying37
  have HR0_1 := Aside0.mk hr0_1
  have HC0_1 := Aside0.mk hc0_1
  clear hr0_1 hc0_1
  have HR1_1 := Aside0.mk hr1_1
  have HC1_1 := Aside0.mk hc1_1
  clear hr1_1 hc1_1
  have HB := Aside0.mk (Below.refl w.heap.size w)
  have H : ((spec_CompareNumbers.f k l0_1 l1_1).bind fun t207 => (if t207 = 0 then ((spec_Builds.f k a0_2 a1_2).bind fun t208 => (some t208)) else (some t207))) = some r := h
  clear h
  replace H := Option.bind_eq_some_iff.mp H
  obtain ⟨t207, A30, H⟩ := H
  replace H : (if t207 = 0 then ((spec_Builds.f k a0_2 a1_2).bind fun t208 => (some t208)) else (some t207)) = some r := H
  have A3 := Aside0.mk A30
  clear A30
  by_cases c4 : t207 = 0
  · rw [if_pos c4] at H
    have c4b0 : (t207 == 0) = true := beq_iff_eq.mpr c4
    have c4b1 : (t207 != 0) = false := bne_eq_false_iff_eq.mpr c4
    clear c4
    replace H := Option.bind_eq_some_iff.mp H
    obtain ⟨t208, A50, H⟩ := H
    replace H : (some t208) = some r := H
    have A5 := Aside0.mk A50
    clear A50
    obtain rfl := Option.some.inj H
    go_enter Tryz.func42, Tryz.ntmps42
    go_wp2_with (first | ((with_reducible refine gate_dst (N := 2) rfl ?_); refine box_event ?hg (N := 2) ?hd (cs := #[.bool a0_0, .slice A0_1 l0_1.length c0_1, .string a0_2, .string a0_3]) (t := 37) ?hr ?_; (case hd => rfl); (case hg => rfl); (case hr => first | (go_simp; done) | (go_simp; rfl)); intro gb205 hg w6 hbox hb; have n0_ := Aside0.mk (below_step (by repeat (first | (with_reducible first | exact HB.out | apply below_alloc | apply pw_below_drewN | apply below_drew1) | exact HB.out)) hb); have n1_ := Aside0.mk (hbox); have n2_ := Aside0.mk ((by rw [hg]; exact (below_size (by repeat (first | (with_reducible first | exact HB.out | apply below_alloc | apply pw_below_drewN | apply below_drew1) | exact HB.out))) : w.heap.size ≤ gb205)); have n3_ := Aside0.mk ((by rw [hg]; exact (below_size (by repeat (first | (with_reducible first | exact HB.out | apply below_alloc | apply pw_below_drewN | apply below_drew1) | exact HB.out))) : w.heap.size ≤ gb205)); clear HB; have HB := n0_; have BK205 := n1_; have GW205 := n2_; have GE205 := n3_; clear n0_ n1_ n2_ n3_; clear hb hbox hg) | ((with_reducible refine gate_dst (N := 3) rfl ?_); refine box_event ?hg (N := 3) ?hd (cs := #[.bool a1_0, .slice A1_1 l1_1.length c1_1, .string a1_2, .string a1_3]) (t := 37) ?hr ?_; (case hd => rfl); (case hg => rfl); (case hr => first | (go_simp; done) | (go_simp; rfl)); intro gb206 hg w7 hbox hb; have n0_ := Aside0.mk (blk_below (g := gb205) (o := .cells #[.bool a0_0, .slice A0_1 l0_1.length c0_1, .string a0_2, .string a0_3] 37 (0, 0)) (by (with_reducible repeat (first | refine blk_drewN ?_ _ | refine blk_drew ?_ | refine blk_alloc ?_ _)); exact BK205.out) hb); have n1_ := Aside0.mk (below_step (by repeat (first | (with_reducible first | exact HB.out | apply below_alloc | apply pw_below_drewN | apply below_drew1 | refine below_set ?_ GE205.out) | exact HB.out)) hb); have n2_ := Aside0.mk (hbox); have n3_ := Aside0.mk ((by rw [hg]; exact (below_size (by repeat (first | (with_reducible first | exact HB.out | apply below_alloc | apply pw_below_drewN | apply below_drew1 | refine below_set ?_ GE205.out) | exact HB.out))) : w.heap.size ≤ gb206)); have n4_ := Aside0.mk ((by rw [hg]; exact (below_size (by repeat (first | (with_reducible first | exact HB.out | apply below_alloc | apply pw_below_drewN | apply below_drew1 | refine below_set ?_ GE205.out) | exact HB.out))) : w.heap.size ≤ gb206)); have n5_ := Aside0.mk ((by rw [hg]; exact Nat.ne_of_lt (blk_lt (g := gb205) (o := .cells #[.bool a0_0, .slice A0_1 l0_1.length c0_1, .string a0_2, .string a0_3] 37 (0, 0)) (by (with_reducible repeat (first | refine blk_drewN ?_ _ | refine blk_drew ?_ | refine blk_alloc ?_ _)); exact BK205.out)) : gb205 ≠ gb206)); have n6_ := Aside0.mk ((by rw [hg]; exact Nat.ne_of_gt (blk_lt (g := gb205) (o := .cells #[.bool a0_0, .slice A0_1 l0_1.length c0_1, .string a0_2, .string a0_3] 37 (0, 0)) (by (with_reducible repeat (first | refine blk_drewN ?_ _ | refine blk_drew ?_ | refine blk_alloc ?_ _)); exact BK205.out)) : gb206 ≠ gb205)); clear BK205; clear HB; have BK205 := n0_; have HB := n1_; have BK206 := n2_; have GW206 := n3_; have GE206 := n4_; have NB205_206 := n5_; have NB206_205 := n6_; clear n0_ n1_ n2_ n3_ n4_ n5_ n6_; clear hb hbox hg; have hnb8 := NB205_206.out; have hnc8 := NB206_205.out; have hcz9_0 : w7.cell? ⟨gb205, 0, none⟩ = some (.bool a0_0) := (blk_cell BK205.out 0).trans rfl; have hcz9_1 : w7.cell? ⟨gb205, 1, none⟩ = some (.slice A0_1 l0_1.length c0_1) := (blk_cell BK205.out 1).trans rfl; have hcz9_2 : w7.cell? ⟨gb205, 2, none⟩ = some (.string a0_2) := (blk_cell BK205.out 2).trans rfl; have hcz9_3 : w7.cell? ⟨gb205, 3, none⟩ = some (.string a0_3) := (blk_cell BK205.out 3).trans rfl; have hfz9_0 := blk_frozen BK205.out 0; have hfz9_1 := blk_frozen BK205.out 1; have hfz9_2 := blk_frozen BK205.out 2; have hfz9_3 := blk_frozen BK205.out 3; have hcz10_0 : w7.cell? ⟨gb206, 0, none⟩ = some (.bool a1_0) := (blk_cell BK206.out 0).trans rfl; have hcz10_1 : w7.cell? ⟨gb206, 1, none⟩ = some (.slice A1_1 l1_1.length c1_1) := (blk_cell BK206.out 1).trans rfl; have hcz10_2 : w7.cell? ⟨gb206, 2, none⟩ = some (.string a1_2) := (blk_cell BK206.out 2).trans rfl; have hcz10_3 : w7.cell? ⟨gb206, 3, none⟩ = some (.string a1_3) := (blk_cell BK206.out 3).trans rfl; have hfz10_0 := blk_frozen BK206.out 0; have hfz10_1 := blk_frozen BK206.out 1; have hfz10_2 := blk_frozen BK206.out 2; have hfz10_3 := blk_frozen BK206.out 3) | ((with_reducible refine gate_callee (f := 60) rfl ?_); refine goesL_ (some 10) rfl rfl Tryz.func60 (by kernel_rfl) rfl #[.slice A0_1 l0_1.length c0_1, .slice A1_1 l1_1.length c1_1] rfl (by (try simp only [List.map_toArray, List.map_cons, List.map_nil]); first | done | rfl | (simp only [List.length_drop, List.length_take]; rfl)) ?_; (with_reducible refine (spec_CompareNumbers.calls k _ _ l0_1 _ _ l1_1 t207 _ ?side1 ?side2 ?side3 ?side4 A3.out).mono ?_); (case side1 => repeat (first | exact (Kd.C_below HR0_1.out HB.out) | (with_reducible refine Kd.C_alloc ?_ _) | (with_reducible refine Kd.C_drewN ?_ _) | (with_reducible refine Kd.C_drew ?_))); (case side2 => exact HC0_1.out); (case side3 => repeat (first | exact (Kd.C_below HR1_1.out HB.out) | (with_reducible refine Kd.C_alloc ?_ _) | (with_reducible refine Kd.C_drewN ?_ _) | (with_reducible refine Kd.C_drew ?_))); (case side4 => exact HC1_1.out); rintro e w11 ⟨rfl, hb⟩; refine ⟨_, rfl, ?_⟩; have n0_ := Aside0.mk (blk_below (g := gb205) (o := .cells #[.bool a0_0, .slice A0_1 l0_1.length c0_1, .string a0_2, .string a0_3] 37 (0, 0)) (by (with_reducible repeat (first | refine blk_drewN ?_ _ | refine blk_drew ?_ | refine blk_alloc ?_ _)); exact BK205.out) hb); have n1_ := Aside0.mk (blk_below (g := gb206) (o := .cells #[.bool a1_0, .slice A1_1 l1_1.length c1_1, .string a1_2, .string a1_3] 37 (0, 0)) (by (with_reducible repeat (first | refine blk_drewN ?_ _ | refine blk_drew ?_ | refine blk_alloc ?_ _)); exact BK206.out) hb); have n2_ := Aside0.mk (below_step (by repeat (first | (with_reducible first | exact HB.out | apply below_alloc | apply pw_below_drewN | apply below_drew1 | refine below_set ?_ GE205.out | refine below_set ?_ GE206.out) | exact HB.out)) hb); clear BK205; clear BK206; clear HB; have BK205 := n0_; have BK206 := n1_; have HB := n2_; clear n0_ n1_ n2_; (try clear hb); (try clear hb2); (try clear hk); (try clear hi); have hcz12_0 : w11.cell? ⟨gb205, 0, none⟩ = some (.bool a0_0) := (blk_cell BK205.out 0).trans rfl; have hcz12_1 : w11.cell? ⟨gb205, 1, none⟩ = some (.slice A0_1 l0_1.length c0_1) := (blk_cell BK205.out 1).trans rfl; have hcz12_2 : w11.cell? ⟨gb205, 2, none⟩ = some (.string a0_2) := (blk_cell BK205.out 2).trans rfl; have hcz12_3 : w11.cell? ⟨gb205, 3, none⟩ = some (.string a0_3) := (blk_cell BK205.out 3).trans rfl; have hfz12_0 := blk_frozen BK205.out 0; have hfz12_1 := blk_frozen BK205.out 1; have hfz12_2 := blk_frozen BK205.out 2; have hfz12_3 := blk_frozen BK205.out 3; have hcz13_0 : w11.cell? ⟨gb206, 0, none⟩ = some (.bool a1_0) := (blk_cell BK206.out 0).trans rfl; have hcz13_1 : w11.cell? ⟨gb206, 1, none⟩ = some (.slice A1_1 l1_1.length c1_1) := (blk_cell BK206.out 1).trans rfl; have hcz13_2 : w11.cell? ⟨gb206, 2, none⟩ = some (.string a1_2) := (blk_cell BK206.out 2).trans rfl; have hcz13_3 : w11.cell? ⟨gb206, 3, none⟩ = some (.string a1_3) := (blk_cell BK206.out 3).trans rfl; have hfz13_0 := blk_frozen BK206.out 0; have hfz13_1 := blk_frozen BK206.out 1; have hfz13_2 := blk_frozen BK206.out 2; have hfz13_3 := blk_frozen BK206.out 3) | ((with_reducible refine gate_callee (f := 61) rfl ?_); refine goesL_ (some 18) rfl rfl Tryz.func61 (by kernel_rfl) rfl #[.string a0_2, .string a1_2] rfl (by (try simp only [List.map_toArray, List.map_cons, List.map_nil]); first | done | rfl | (simp only [List.length_drop, List.length_take]; rfl)) ?_; (with_reducible refine (spec_Builds.calls k a0_2 a1_2 t208 _ A5.out).mono ?_); rintro e w14 ⟨rfl, hb⟩; refine ⟨_, rfl, ?_⟩; have n0_ := Aside0.mk (blk_below (g := gb205) (o := .cells #[.bool a0_0, .slice A0_1 l0_1.length c0_1, .string a0_2, .string a0_3] 37 (0, 0)) (by (with_reducible repeat (first | refine blk_drewN ?_ _ | refine blk_drew ?_ | refine blk_alloc ?_ _)); exact BK205.out) hb); have n1_ := Aside0.mk (blk_below (g := gb206) (o := .cells #[.bool a1_0, .slice A1_1 l1_1.length c1_1, .string a1_2, .string a1_3] 37 (0, 0)) (by (with_reducible repeat (first | refine blk_drewN ?_ _ | refine blk_drew ?_ | refine blk_alloc ?_ _)); exact BK206.out) hb); have n2_ := Aside0.mk (below_step (by repeat (first | (with_reducible first | exact HB.out | apply below_alloc | apply pw_below_drewN | apply below_drew1 | refine below_set ?_ GE205.out | refine below_set ?_ GE206.out) | exact HB.out)) hb); clear BK205; clear BK206; clear HB; have BK205 := n0_; have BK206 := n1_; have HB := n2_; clear n0_ n1_ n2_; (try clear hb); (try clear hb2); (try clear hk); (try clear hi)))
    go_ret
    exact ⟨by first | rfl | (simp [errW_none, errW_some] <;> rfl) | (simp [*, errW_none, errW_some] <;> rfl) | (simp [bne_nil_]; done), by repeat (first | (with_reducible first | exact HB.out | apply below_alloc | apply pw_below_drewN | apply below_drew1 | refine below_set ?_ GE205.out | refine below_set ?_ GE206.out) | exact HB.out)⟩
  · rw [if_neg c4] at H
    have c4b0 : (t207 == 0) = false := beq_eq_false_iff_ne.mpr c4
    have c4b1 : (t207 != 0) = true := bne_iff_ne.mpr c4
    obtain rfl := Option.some.inj H
    go_enter Tryz.func42, Tryz.ntmps42
    go_wp2_with (first | ((with_reducible refine gate_dst (N := 2) rfl ?_); refine box_event ?hg (N := 2) ?hd (cs := #[.bool a0_0, .slice A0_1 l0_1.length c0_1, .string a0_2, .string a0_3]) (t := 37) ?hr ?_; (case hd => rfl); (case hg => rfl); (case hr => first | (go_simp; done) | (go_simp; rfl)); intro gb205 hg w15 hbox hb; have n0_ := Aside0.mk (below_step (by repeat (first | (with_reducible first | exact HB.out | apply below_alloc | apply pw_below_drewN | apply below_drew1) | exact HB.out)) hb); have n1_ := Aside0.mk (hbox); have n2_ := Aside0.mk ((by rw [hg]; exact (below_size (by repeat (first | (with_reducible first | exact HB.out | apply below_alloc | apply pw_below_drewN | apply below_drew1) | exact HB.out))) : w.heap.size ≤ gb205)); have n3_ := Aside0.mk ((by rw [hg]; exact (below_size (by repeat (first | (with_reducible first | exact HB.out | apply below_alloc | apply pw_below_drewN | apply below_drew1) | exact HB.out))) : w.heap.size ≤ gb205)); clear HB; have HB := n0_; have BK205 := n1_; have GW205 := n2_; have GE205 := n3_; clear n0_ n1_ n2_ n3_; clear hb hbox hg) | ((with_reducible refine gate_dst (N := 3) rfl ?_); refine box_event ?hg (N := 3) ?hd (cs := #[.bool a1_0, .slice A1_1 l1_1.length c1_1, .string a1_2, .string a1_3]) (t := 37) ?hr ?_; (case hd => rfl); (case hg => rfl); (case hr => first | (go_simp; done) | (go_simp; rfl)); intro gb206 hg w16 hbox hb; have n0_ := Aside0.mk (blk_below (g := gb205) (o := .cells #[.bool a0_0, .slice A0_1 l0_1.length c0_1, .string a0_2, .string a0_3] 37 (0, 0)) (by (with_reducible repeat (first | refine blk_drewN ?_ _ | refine blk_drew ?_ | refine blk_alloc ?_ _)); exact BK205.out) hb); have n1_ := Aside0.mk (below_step (by repeat (first | (with_reducible first | exact HB.out | apply below_alloc | apply pw_below_drewN | apply below_drew1 | refine below_set ?_ GE205.out) | exact HB.out)) hb); have n2_ := Aside0.mk (hbox); have n3_ := Aside0.mk ((by rw [hg]; exact (below_size (by repeat (first | (with_reducible first | exact HB.out | apply below_alloc | apply pw_below_drewN | apply below_drew1 | refine below_set ?_ GE205.out) | exact HB.out))) : w.heap.size ≤ gb206)); have n4_ := Aside0.mk ((by rw [hg]; exact (below_size (by repeat (first | (with_reducible first | exact HB.out | apply below_alloc | apply pw_below_drewN | apply below_drew1 | refine below_set ?_ GE205.out) | exact HB.out))) : w.heap.size ≤ gb206)); have n5_ := Aside0.mk ((by rw [hg]; exact Nat.ne_of_lt (blk_lt (g := gb205) (o := .cells #[.bool a0_0, .slice A0_1 l0_1.length c0_1, .string a0_2, .string a0_3] 37 (0, 0)) (by (with_reducible repeat (first | refine blk_drewN ?_ _ | refine blk_drew ?_ | refine blk_alloc ?_ _)); exact BK205.out)) : gb205 ≠ gb206)); have n6_ := Aside0.mk ((by rw [hg]; exact Nat.ne_of_gt (blk_lt (g := gb205) (o := .cells #[.bool a0_0, .slice A0_1 l0_1.length c0_1, .string a0_2, .string a0_3] 37 (0, 0)) (by (with_reducible repeat (first | refine blk_drewN ?_ _ | refine blk_drew ?_ | refine blk_alloc ?_ _)); exact BK205.out)) : gb206 ≠ gb205)); clear BK205; clear HB; have BK205 := n0_; have HB := n1_; have BK206 := n2_; have GW206 := n3_; have GE206 := n4_; have NB205_206 := n5_; have NB206_205 := n6_; clear n0_ n1_ n2_ n3_ n4_ n5_ n6_; clear hb hbox hg; have hnb17 := NB205_206.out; have hnc17 := NB206_205.out; have hcz18_0 : w16.cell? ⟨gb205, 0, none⟩ = some (.bool a0_0) := (blk_cell BK205.out 0).trans rfl; have hcz18_1 : w16.cell? ⟨gb205, 1, none⟩ = some (.slice A0_1 l0_1.length c0_1) := (blk_cell BK205.out 1).trans rfl; have hcz18_2 : w16.cell? ⟨gb205, 2, none⟩ = some (.string a0_2) := (blk_cell BK205.out 2).trans rfl; have hcz18_3 : w16.cell? ⟨gb205, 3, none⟩ = some (.string a0_3) := (blk_cell BK205.out 3).trans rfl; have hfz18_0 := blk_frozen BK205.out 0; have hfz18_1 := blk_frozen BK205.out 1; have hfz18_2 := blk_frozen BK205.out 2; have hfz18_3 := blk_frozen BK205.out 3; have hcz19_0 : w16.cell? ⟨gb206, 0, none⟩ = some (.bool a1_0) := (blk_cell BK206.out 0).trans rfl; have hcz19_1 : w16.cell? ⟨gb206, 1, none⟩ = some (.slice A1_1 l1_1.length c1_1) := (blk_cell BK206.out 1).trans rfl; have hcz19_2 : w16.cell? ⟨gb206, 2, none⟩ = some (.string a1_2) := (blk_cell BK206.out 2).trans rfl; have hcz19_3 : w16.cell? ⟨gb206, 3, none⟩ = some (.string a1_3) := (blk_cell BK206.out 3).trans rfl; have hfz19_0 := blk_frozen BK206.out 0; have hfz19_1 := blk_frozen BK206.out 1; have hfz19_2 := blk_frozen BK206.out 2; have hfz19_3 := blk_frozen BK206.out 3) | ((with_reducible refine gate_callee (f := 60) rfl ?_); refine goesL_ (some 10) rfl rfl Tryz.func60 (by kernel_rfl) rfl #[.slice A0_1 l0_1.length c0_1, .slice A1_1 l1_1.length c1_1] rfl (by (try simp only [List.map_toArray, List.map_cons, List.map_nil]); first | done | rfl | (simp only [List.length_drop, List.length_take]; rfl)) ?_; (with_reducible refine (spec_CompareNumbers.calls k _ _ l0_1 _ _ l1_1 t207 _ ?side1 ?side2 ?side3 ?side4 A3.out).mono ?_); (case side1 => repeat (first | exact (Kd.C_below HR0_1.out HB.out) | (with_reducible refine Kd.C_alloc ?_ _) | (with_reducible refine Kd.C_drewN ?_ _) | (with_reducible refine Kd.C_drew ?_))); (case side2 => exact HC0_1.out); (case side3 => repeat (first | exact (Kd.C_below HR1_1.out HB.out) | (with_reducible refine Kd.C_alloc ?_ _) | (with_reducible refine Kd.C_drewN ?_ _) | (with_reducible refine Kd.C_drew ?_))); (case side4 => exact HC1_1.out); rintro e w20 ⟨rfl, hb⟩; refine ⟨_, rfl, ?_⟩; have n0_ := Aside0.mk (blk_below (g := gb205) (o := .cells #[.bool a0_0, .slice A0_1 l0_1.length c0_1, .string a0_2, .string a0_3] 37 (0, 0)) (by (with_reducible repeat (first | refine blk_drewN ?_ _ | refine blk_drew ?_ | refine blk_alloc ?_ _)); exact BK205.out) hb); have n1_ := Aside0.mk (blk_below (g := gb206) (o := .cells #[.bool a1_0, .slice A1_1 l1_1.length c1_1, .string a1_2, .string a1_3] 37 (0, 0)) (by (with_reducible repeat (first | refine blk_drewN ?_ _ | refine blk_drew ?_ | refine blk_alloc ?_ _)); exact BK206.out) hb); have n2_ := Aside0.mk (below_step (by repeat (first | (with_reducible first | exact HB.out | apply below_alloc | apply pw_below_drewN | apply below_drew1 | refine below_set ?_ GE205.out | refine below_set ?_ GE206.out) | exact HB.out)) hb); clear BK205; clear BK206; clear HB; have BK205 := n0_; have BK206 := n1_; have HB := n2_; clear n0_ n1_ n2_; (try clear hb); (try clear hb2); (try clear hk); (try clear hi)))
    go_ret
    exact ⟨by first | rfl | (simp [errW_none, errW_some] <;> rfl) | (simp [*, errW_none, errW_some] <;> rfl) | (simp [bne_nil_]; done), by repeat (first | (with_reducible first | exact HB.out | apply below_alloc | apply pw_below_drewN | apply below_drew1 | refine below_set ?_ GE205.out | refine below_set ?_ GE206.out) | exact HB.out)⟩

end Go.Proofs.YtdliagehkiihpaaGreatDoor.QW
