-- Written by a working copy of the kit's print program, turned at a few places by wip/tool/mkprint.py. Lean checks it.
import Derived.Test.YtcjpponhaigabaaGreatDoorQHx0
import Derived.Test.YtcjpponhaigabaaGreatDoorQHx1
import Derived.Test.YtcjpponhaigabaaGreatDoorQHx2
namespace Go.Proofs.YtcjpponhaigabaaGreatDoor.QH
open Go.RowKit Go.Proofs.YtcjpponhaigabaaGreatDoorW.PrintWords Go.Proofs.YtcjpponhaigabaaGreatDoorW.PrintLast Go.Proofs.YtcjpponhaigabaaGreatDoorW.PrintMore
attribute [local go_sem] max2_int min2_int max_two min_two max_three min_three max_four min_four   -- for this text's walks alone
set_option linter.unusedVariables false
set_option linter.unusedSimpArgs false

attribute [local go_sem high] eqA48
/-! ### spec_HackageParse: function 7 -/
def spec_HackageParse.f (k : Nat) (a0 : ByteArray) : Option (Bool × (List (S48)) × ByteArray × ByteArray × Bool) := (spec_LikeParse.f k a0).bind fun bt139 => (if bt139.2.2.1.toList = ([] : List UInt8) then (some (bt139.1, bt139.2.1, bt139.2.2.1, bt139.2.2.2, true)) else (some (false, ([] : List (S48)), (⟨#[]⟩ : ByteArray), (⟨#[]⟩ : ByteArray), false)))
theorem spec_HackageParse.mono : ∀ a0 k, LeO (spec_HackageParse.f k a0) (spec_HackageParse.f (k + 1) a0) := by
  intro a0 k
  unfold spec_HackageParse.f
  repeat' first
      | (with_reducible exact spec_LikeParse.mono _ _)
      | (with_reducible exact LeO.refl _)
      | (with_reducible exact LeO.none _)
      | (with_reducible refine LeO.ite ?_ ?_)
      | (with_reducible refine LeO.bind ?_ (fun _ => ?_))
      | exact spec_LikeParse.mono _ _
      | exact LeO.none _
      | refine LeO.ite ?_ ?_
      | refine LeO.bind ?_ (fun _ => ?_)
set_option maxHeartbeats 8000000 in
set_option maxRecDepth 100000 in
theorem spec_HackageParse.calls (k : Nat) (a0 : ByteArray) (r1 : Bool) (r2 : List (S48)) (r3 : ByteArray) (r4 : ByteArray) (r5 : Bool) (w : World) (h : spec_HackageParse.f k a0 = some (r1, r2, r3, r4, r5)) :
    Calls Tryz.prog 7 #[.string a0] w fun e w' => ∃ v1_ : Value, e = .returned (.tuple #[.agg #[.bool r1, v1_, .string r3, .string r4], .bool r5]) ∧ Kd.R k48 48 w' w.heap.size (fun _ => True) v1_ r2 ∧ Below w.heap.size w w' := by
  have hu26 := Tryz.underlying26
  have HB := Aside0.mk (Below.refl w.heap.size w)
  have H : ((spec_LikeParse.f k a0).bind fun bt139 => (if bt139.2.2.1.toList = ([] : List UInt8) then (some (bt139.1, bt139.2.1, bt139.2.2.1, bt139.2.2.2, true)) else (some (false, ([] : List (S48)), (⟨#[]⟩ : ByteArray), (⟨#[]⟩ : ByteArray), false)))) = some (r1, r2, r3, r4, r5) := h
  clear h
  replace H := Option.bind_eq_some_iff.mp H
  obtain ⟨⟨t139, t140, t143, t144⟩, A20, H⟩ := H
  replace H : (if t143.toList = ([] : List UInt8) then (some (t139, t140, t143, t144, true)) else (some (false, ([] : List (S48)), (⟨#[]⟩ : ByteArray), (⟨#[]⟩ : ByteArray), false))) = some (r1, r2, r3, r4, r5) := H
  have A2 := Aside0.mk A20
  clear A20
  by_cases c3 : t143.toList = ([] : List UInt8)
  · rw [if_pos c3] at H
    have c3b0 : (t143.toList == ([] : List UInt8)) = true := beq_iff_eq.mpr c3
    have c3b1 : (t143.toList != ([] : List UInt8)) = false := bne_eq_false_iff_eq.mpr c3
    clear c3
    simp only [Option.some.injEq, Prod.mk.injEq] at H
    obtain ⟨rfl, rfl, rfl, rfl, rfl⟩ := H
    go_enter Tryz.func7, Tryz.ntmps7
    go_wp2_with (first | ((with_reducible refine gate_dst (N := 2) rfl ?_); refine box_event ?hg (N := 2) ?hd (cs := #[.bool false, .slice none 0 0, .string (⟨#[]⟩ : ByteArray), .string (⟨#[]⟩ : ByteArray)]) (t := 26) ?hr ?_; (case hd => rfl); (case hg => rfl); (case hr => first | (go_simp; done) | (go_simp; rfl)); intro gb138 hg w4 hbox hb; have n0_ := Aside0.mk (below_step (by repeat (first | (with_reducible first | exact HB.out | apply below_alloc | apply pw_below_drewN | apply below_drew1) | exact HB.out)) hb); have n1_ := Aside0.mk (hbox); have n2_ := Aside0.mk ((by rw [hg]; exact (below_size (by repeat (first | (with_reducible first | exact HB.out | apply below_alloc | apply pw_below_drewN | apply below_drew1) | exact HB.out))) : w.heap.size ≤ gb138)); have n3_ := Aside0.mk ((by rw [hg]; exact (below_size (by repeat (first | (with_reducible first | exact HB.out | apply below_alloc | apply pw_below_drewN | apply below_drew1) | exact HB.out))) : w.heap.size ≤ gb138)); clear HB; have HB := n0_; have BK138 := n1_; have GW138 := n2_; have GE138 := n3_; clear n0_ n1_ n2_ n3_; clear hb hbox hg) | ((with_reducible refine gate_callee (f := 13) rfl ?_); refine goesL_ (some 5) rfl rfl Tryz.func13 (by kernel_rfl) rfl #[.string a0] rfl (by (try simp only [List.map_toArray, List.map_cons, List.map_nil]); first | done | rfl | (simp only [List.length_drop, List.length_take]; rfl)) ?_; (with_reducible refine (spec_LikeParse.calls k a0 t139 t140 t143 t144 _ A2.out).mono ?_); rintro e w5 ⟨v141, rfl, ho0, hb⟩; refine ⟨_, rfl, ?_⟩; have n0_ := Aside0.mk (Kd.R_lower ho0 (below_size (by repeat (first | (with_reducible first | exact HB.out | apply below_alloc | apply pw_below_drewN | apply below_drew1 | refine below_set ?_ GE138.out) | exact HB.out)))); have n1_ := Aside0.mk (blk_below (g := gb138) (o := .cells #[.bool false, .slice none 0 0, .string (⟨#[]⟩ : ByteArray), .string (⟨#[]⟩ : ByteArray)] 26 (0, 0)) (by (with_reducible repeat (first | refine blk_drewN ?_ _ | refine blk_drew ?_ | refine blk_alloc ?_ _)); exact BK138.out) hb); have n2_ := Aside0.mk (below_step (by repeat (first | (with_reducible first | exact HB.out | apply below_alloc | apply pw_below_drewN | apply below_drew1 | refine below_set ?_ GE138.out) | exact HB.out)) hb); clear BK138; clear HB; have HO142 := n0_; have BK138 := n1_; have HB := n2_; clear n0_ n1_ n2_; (try clear hb); (try clear hb2); (try clear hk); (try clear hi); (try clear ho0); have hcz6_0 : w5.cell? ⟨gb138, 0, none⟩ = some (.bool false) := (blk_cell BK138.out 0).trans rfl; have hcz6_1 : w5.cell? ⟨gb138, 1, none⟩ = some (.slice none 0 0) := (blk_cell BK138.out 1).trans rfl; have hcz6_2 : w5.cell? ⟨gb138, 2, none⟩ = some (.string (⟨#[]⟩ : ByteArray)) := (blk_cell BK138.out 2).trans rfl; have hcz6_3 : w5.cell? ⟨gb138, 3, none⟩ = some (.string (⟨#[]⟩ : ByteArray)) := (blk_cell BK138.out 3).trans rfl; have hfz6_0 := blk_frozen BK138.out 0; have hfz6_1 := blk_frozen BK138.out 1; have hfz6_2 := blk_frozen BK138.out 2; have hfz6_3 := blk_frozen BK138.out 3; obtain ⟨Ao7, co7, eo7⟩ := Kd.R_slice HO142.out; subst eo7))
    refine bodyPost_ret (results_ct rfl _ _ gb138 26 #[.bool t139, .slice Ao7 t140.length co7, .string t143, .string t144] (0, 0) _ rfl (by (with_reducible repeat (first | refine blk_drewN ?_ _ | refine blk_drew ?_ | refine blk_alloc ?_ _)); refine blk_put (cs := #[.bool t139, .slice Ao7 t140.length co7, .string t143, .string t144]) ?_ 3 _ rfl; (with_reducible repeat (first | refine blk_drewN ?_ _ | refine blk_drew ?_ | refine blk_alloc ?_ _)); refine blk_put (cs := #[.bool t139, .slice Ao7 t140.length co7, .string t143, .string t144]) ?_ 2 _ rfl; (with_reducible repeat (first | refine blk_drewN ?_ _ | refine blk_drew ?_ | refine blk_alloc ?_ _)); refine blk_put (cs := #[.bool t139, .slice Ao7 t140.length co7, .string t143, .string t144]) ?_ 1 _ rfl; (with_reducible repeat (first | refine blk_drewN ?_ _ | refine blk_drew ?_ | refine blk_alloc ?_ _)); refine blk_put (cs := #[.bool t139, .slice Ao7 t140.length co7, .string t143, .string t144]) ?_ 0 _ rfl; (with_reducible repeat (first | refine blk_drewN ?_ _ | refine blk_drew ?_ | refine blk_alloc ?_ _)); refine blk_put (cs := #[.bool t139, .slice Ao7 t140.length co7, .string t143, .string (⟨#[]⟩ : ByteArray)]) ?_ 3 _ rfl; (with_reducible repeat (first | refine blk_drewN ?_ _ | refine blk_drew ?_ | refine blk_alloc ?_ _)); refine blk_put (cs := #[.bool t139, .slice Ao7 t140.length co7, .string (⟨#[]⟩ : ByteArray), .string (⟨#[]⟩ : ByteArray)]) ?_ 2 _ rfl; (with_reducible repeat (first | refine blk_drewN ?_ _ | refine blk_drew ?_ | refine blk_alloc ?_ _)); refine blk_put (cs := #[.bool t139, .slice none 0 0, .string (⟨#[]⟩ : ByteArray), .string (⟨#[]⟩ : ByteArray)]) ?_ 1 _ rfl; (with_reducible repeat (first | refine blk_drewN ?_ _ | refine blk_drew ?_ | refine blk_alloc ?_ _)); refine blk_put (cs := #[.bool false, .slice none 0 0, .string (⟨#[]⟩ : ByteArray), .string (⟨#[]⟩ : ByteArray)]) ?_ 0 _ rfl; (with_reducible repeat (first | refine blk_drewN ?_ _ | refine blk_drew ?_ | refine blk_alloc ?_ _)); exact BK138.out) Tryz.underlying26 rfl (by kernel_rfl)) rfl ?_
    exact ⟨_, by first | rfl | (simp [errW_none, errW_some] <;> rfl) | (simp [*, errW_none, errW_some] <;> rfl) | (simp [bne_nil_]; done), by (with_reducible repeat (first | apply Kd.R_alloc | apply Kd.R_drewN | apply Kd.R_drew)); exact Kd.R_mono (Kd.R_far (p := ⟨gb138, 3, none⟩) (Kd.R_far (p := ⟨gb138, 2, none⟩) (Kd.R_far (p := ⟨gb138, 1, none⟩) (Kd.R_far (p := ⟨gb138, 0, none⟩) (Kd.R_far (p := ⟨gb138, 3, none⟩) (Kd.R_far (p := ⟨gb138, 2, none⟩) (Kd.R_far (p := ⟨gb138, 1, none⟩) (Kd.R_far (p := ⟨gb138, 0, none⟩) (Kd.R_types HO142.out BK138.out (by decide)) (fun _ hk => hk.2) (.bool t139)) (fun _ hk => hk.2) (.slice Ao7 t140.length co7)) (fun _ hk => hk.2) (.string t143)) (fun _ hk => hk.2) (.string t144)) (fun _ hk => hk.2) (.bool t139)) (fun _ hk => hk.2) (.slice Ao7 t140.length co7)) (fun _ hk => hk.2) (.string t143)) (fun _ hk => hk.2) (.string t144)) (fun _ hk => trivial), by repeat (first | (with_reducible first | exact HB.out | apply below_alloc | apply pw_below_drewN | apply below_drew1 | refine below_set ?_ GE138.out) | exact HB.out)⟩
  · rw [if_neg c3] at H
    have c3b0 : (t143.toList == ([] : List UInt8)) = false := beq_eq_false_iff_ne.mpr c3
    have c3b1 : (t143.toList != ([] : List UInt8)) = true := bne_iff_ne.mpr c3
    simp only [Option.some.injEq, Prod.mk.injEq] at H
    obtain ⟨rfl, rfl, rfl, rfl, rfl⟩ := H
    go_enter Tryz.func7, Tryz.ntmps7
    go_wp2_with (first | ((with_reducible refine gate_dst (N := 2) rfl ?_); refine box_event ?hg (N := 2) ?hd (cs := #[.bool false, .slice none 0 0, .string (⟨#[]⟩ : ByteArray), .string (⟨#[]⟩ : ByteArray)]) (t := 26) ?hr ?_; (case hd => rfl); (case hg => rfl); (case hr => first | (go_simp; done) | (go_simp; rfl)); intro gb138 hg w8 hbox hb; have n0_ := Aside0.mk (below_step (by repeat (first | (with_reducible first | exact HB.out | apply below_alloc | apply pw_below_drewN | apply below_drew1) | exact HB.out)) hb); have n1_ := Aside0.mk (hbox); have n2_ := Aside0.mk ((by rw [hg]; exact (below_size (by repeat (first | (with_reducible first | exact HB.out | apply below_alloc | apply pw_below_drewN | apply below_drew1) | exact HB.out))) : w.heap.size ≤ gb138)); have n3_ := Aside0.mk ((by rw [hg]; exact (below_size (by repeat (first | (with_reducible first | exact HB.out | apply below_alloc | apply pw_below_drewN | apply below_drew1) | exact HB.out))) : w.heap.size ≤ gb138)); clear HB; have HB := n0_; have BK138 := n1_; have GW138 := n2_; have GE138 := n3_; clear n0_ n1_ n2_ n3_; clear hb hbox hg) | ((with_reducible refine gate_callee (f := 13) rfl ?_); refine goesL_ (some 5) rfl rfl Tryz.func13 (by kernel_rfl) rfl #[.string a0] rfl (by (try simp only [List.map_toArray, List.map_cons, List.map_nil]); first | done | rfl | (simp only [List.length_drop, List.length_take]; rfl)) ?_; (with_reducible refine (spec_LikeParse.calls k a0 t139 t140 t143 t144 _ A2.out).mono ?_); rintro e w9 ⟨v141, rfl, ho0, hb⟩; refine ⟨_, rfl, ?_⟩; have n0_ := Aside0.mk (Kd.R_lower ho0 (below_size (by repeat (first | (with_reducible first | exact HB.out | apply below_alloc | apply pw_below_drewN | apply below_drew1 | refine below_set ?_ GE138.out) | exact HB.out)))); have n1_ := Aside0.mk (blk_below (g := gb138) (o := .cells #[.bool false, .slice none 0 0, .string (⟨#[]⟩ : ByteArray), .string (⟨#[]⟩ : ByteArray)] 26 (0, 0)) (by (with_reducible repeat (first | refine blk_drewN ?_ _ | refine blk_drew ?_ | refine blk_alloc ?_ _)); exact BK138.out) hb); have n2_ := Aside0.mk (below_step (by repeat (first | (with_reducible first | exact HB.out | apply below_alloc | apply pw_below_drewN | apply below_drew1 | refine below_set ?_ GE138.out) | exact HB.out)) hb); clear BK138; clear HB; have HO142 := n0_; have BK138 := n1_; have HB := n2_; clear n0_ n1_ n2_; (try clear hb); (try clear hb2); (try clear hk); (try clear hi); (try clear ho0); have hcz10_0 : w9.cell? ⟨gb138, 0, none⟩ = some (.bool false) := (blk_cell BK138.out 0).trans rfl; have hcz10_1 : w9.cell? ⟨gb138, 1, none⟩ = some (.slice none 0 0) := (blk_cell BK138.out 1).trans rfl; have hcz10_2 : w9.cell? ⟨gb138, 2, none⟩ = some (.string (⟨#[]⟩ : ByteArray)) := (blk_cell BK138.out 2).trans rfl; have hcz10_3 : w9.cell? ⟨gb138, 3, none⟩ = some (.string (⟨#[]⟩ : ByteArray)) := (blk_cell BK138.out 3).trans rfl; have hfz10_0 := blk_frozen BK138.out 0; have hfz10_1 := blk_frozen BK138.out 1; have hfz10_2 := blk_frozen BK138.out 2; have hfz10_3 := blk_frozen BK138.out 3; obtain ⟨Ao11, co11, eo11⟩ := Kd.R_slice HO142.out; subst eo11))
    refine bodyPost_ret (results_ct rfl _ _ gb138 26 #[.bool false, .slice none 0 0, .string (⟨#[]⟩ : ByteArray), .string (⟨#[]⟩ : ByteArray)] (0, 0) _ rfl (by (with_reducible repeat (first | refine blk_drewN ?_ _ | refine blk_drew ?_ | refine blk_alloc ?_ _)); refine blk_put (cs := #[.bool false, .slice none 0 0, .string (⟨#[]⟩ : ByteArray), .string t144]) ?_ 3 _ rfl; (with_reducible repeat (first | refine blk_drewN ?_ _ | refine blk_drew ?_ | refine blk_alloc ?_ _)); refine blk_put (cs := #[.bool false, .slice none 0 0, .string t143, .string t144]) ?_ 2 _ rfl; (with_reducible repeat (first | refine blk_drewN ?_ _ | refine blk_drew ?_ | refine blk_alloc ?_ _)); refine blk_put (cs := #[.bool false, .slice Ao11 t140.length co11, .string t143, .string t144]) ?_ 1 _ rfl; (with_reducible repeat (first | refine blk_drewN ?_ _ | refine blk_drew ?_ | refine blk_alloc ?_ _)); refine blk_put (cs := #[.bool t139, .slice Ao11 t140.length co11, .string t143, .string t144]) ?_ 0 _ rfl; (with_reducible repeat (first | refine blk_drewN ?_ _ | refine blk_drew ?_ | refine blk_alloc ?_ _)); refine blk_put (cs := #[.bool t139, .slice Ao11 t140.length co11, .string t143, .string (⟨#[]⟩ : ByteArray)]) ?_ 3 _ rfl; (with_reducible repeat (first | refine blk_drewN ?_ _ | refine blk_drew ?_ | refine blk_alloc ?_ _)); refine blk_put (cs := #[.bool t139, .slice Ao11 t140.length co11, .string (⟨#[]⟩ : ByteArray), .string (⟨#[]⟩ : ByteArray)]) ?_ 2 _ rfl; (with_reducible repeat (first | refine blk_drewN ?_ _ | refine blk_drew ?_ | refine blk_alloc ?_ _)); refine blk_put (cs := #[.bool t139, .slice none 0 0, .string (⟨#[]⟩ : ByteArray), .string (⟨#[]⟩ : ByteArray)]) ?_ 1 _ rfl; (with_reducible repeat (first | refine blk_drewN ?_ _ | refine blk_drew ?_ | refine blk_alloc ?_ _)); refine blk_put (cs := #[.bool false, .slice none 0 0, .string (⟨#[]⟩ : ByteArray), .string (⟨#[]⟩ : ByteArray)]) ?_ 0 _ rfl; (with_reducible repeat (first | refine blk_drewN ?_ _ | refine blk_drew ?_ | refine blk_alloc ?_ _)); exact BK138.out) Tryz.underlying26 rfl (by kernel_rfl)) rfl ?_
    exact ⟨_, by first | rfl | (simp [errW_none, errW_some] <;> rfl) | (simp [*, errW_none, errW_some] <;> rfl) | (simp [bne_nil_]; done), by first | exact Kd.R_nil _ _ _ _ _ | exact Kd.N_nil _ _ _ _ _ | exact Kd.V_nil _ _ _ _ _ | exact Kd.Q_nil _ _ _ _ _ | exact Kd.S_nil _ _ _ _ _, by repeat (first | (with_reducible first | exact HB.out | apply below_alloc | apply pw_below_drewN | apply below_drew1 | refine below_set ?_ GE138.out) | exact HB.out)⟩

/-! ### laws_ints: function 8 -/
def laws_ints.l0 : Nat → List (S48) → List (S48) → Int → Int → Option (Bool)
  | 0, _, _, _, _ => none
  | k + 1, x0, x1, x12, x13 => if x13 < x12 then (if 0 ≤ x13 then (if x13 < (x0.length : Int) then (if x13 < (x1.length : Int) then (if (!(((rd_T48 x0 x13).f0) == ((rd_T48 x1 x13).f0)) || (!((((rd_T48 x0 x13).f1).toList) == (((rd_T48 x1 x13).f1).toList)))) = true then (some false) else (laws_ints.l0 k x0 x1 x12 (wrap64 (x13 + 1)))) else (none)) else (none)) else (none)) else (some true)
def laws_ints.f (k : Nat) (l0 : List (S48)) (l1 : List (S48)) : Option (Bool) := if (l0.length : Int) = (l1.length : Int) then (laws_ints.l0 k l0 l1 (l0.length : Int) 0) else (some false)
theorem laws_ints.mono_l : ∀ k, (∀ y0 y1 y2 y3, LeO (laws_ints.l0 k y0 y1 y2 y3) (laws_ints.l0 (k + 1) y0 y1 y2 y3))
  | 0 => fun _ _ _ _ r h => by simp [laws_ints.l0] at h
  | k + 1 => by
    have ih0 := laws_ints.mono_l k
    · intro y0 y1 y2 y3
      unfold laws_ints.l0
      repeat' first
      | (with_reducible exact ih0 _ _ _ _)
      | (with_reducible exact LeO.refl _)
      | (with_reducible exact LeO.none _)
      | (with_reducible refine LeO.ite ?_ ?_)
      | (with_reducible refine LeO.bind ?_ (fun _ => ?_))
      | exact ih0 _ _ _ _
      | exact LeO.none _
      | refine LeO.ite ?_ ?_
      | refine LeO.bind ?_ (fun _ => ?_)
theorem laws_ints.mono : ∀ a0 a1 k, LeO (laws_ints.f k a0 a1) (laws_ints.f (k + 1) a0 a1) := by
  intro a0 a1 k
  have ih0 := laws_ints.mono_l k
  unfold laws_ints.f
  repeat' first
      | (with_reducible exact ih0 _ _ _ _)
      | (with_reducible exact LeO.refl _)
      | (with_reducible exact LeO.none _)
      | (with_reducible refine LeO.ite ?_ ?_)
      | (with_reducible refine LeO.bind ?_ (fun _ => ?_))
      | exact ih0 _ _ _ _
      | exact LeO.none _
      | refine LeO.ite ?_ ?_
      | refine LeO.bind ?_ (fun _ => ?_)
set_option maxHeartbeats 8000000 in
set_option maxRecDepth 100000 in
theorem laws_ints.calls (k : Nat) (A0 : Option Addr) (c0 : Nat) (l0 : List (S48)) (A1 : Option Addr) (c1 : Nat) (l1 : List (S48)) (r : Bool) (w : World) (hr0 : Kd.C k48 w A0 l0.length l0) (hc0 : l0.length ≤ c0) (hr1 : Kd.C k48 w A1 l1.length l1) (hc1 : l1.length ≤ c1) (h : laws_ints.f k l0 l1 = some r) :
    Calls Tryz.prog 8 #[.slice A0 l0.length c0, .slice A1 l1.length c1] w fun e w' => e = .returned (.bool r) ∧ Drawn0 w w' := by
  have hu48 := Tryz.underlying48
  have HR0 := Aside0.mk hr0
  have HC0 := Aside0.mk hc0
  clear hr0 hc0
  have HR1 := Aside0.mk hr1
  have HC1 := Aside0.mk hc1
  clear hr1 hc1
  have H : (if (l0.length : Int) = (l1.length : Int) then (laws_ints.l0 k l0 l1 (l0.length : Int) 0) else (some false)) = some r := h
  clear h
  by_cases c3 : (l0.length : Int) = (l1.length : Int)
  · rw [if_pos c3] at H
    have c3b0 : ((l0.length : Int) == (l1.length : Int)) = true := beq_iff_eq.mpr c3
    have c3b1 : ((l0.length : Int) != (l1.length : Int)) = false := bne_eq_false_iff_eq.mpr c3
    have c3b2 : (l0.length == l1.length) = true := by first | simpa using c3 | (simp at c3 ⊢; omega)
    clear c3
    have H' := Aside0.mk H
    clear H
    go_enter Tryz.func8, Tryz.ntmps8
    go_wp2
    repeat (go_quiet (fail); try go_wp2)
    go_loopg [13] k (fun kq v13 w' => ∃ (x13_1 : Int), v13 = .int .i64 x13_1 ∧ Aside0 (laws_ints.l0 kq l0 l1 (l0.length : Int) x13_1 = some r) ∧ Aside0 (kq ≤ k) ∧ Drawn0 w w')
    case atStart => exact ⟨(0), (by first | rfl | (simp; done) | (simp [*]; done) | (simp [bne_nil_]; done)), H', ⟨Nat.le_refl _⟩, by repeat (first | exact Drawn0.refl _ | apply Drawn0.step)⟩
    case round =>
      clear H'
      try clear c1
      try clear p2
      try clear c3
      try clear c3b0
      try clear c3b1
      try clear c3b2
      obtain ⟨x13_1, rfl, HA, HK1, ⟨m1, rfl⟩⟩ := hrel
      cases gk with
      | zero => exact absurd HA.out (by simp [laws_ints.l0])
      | succ k1 =>
        have H := HA.out
        clear HA
        simp only [laws_ints.l0] at H
        by_cases c4 : x13_1 < (l0.length : Int)
        · rw [if_pos c4] at H
          have c4b0 : decide (x13_1 < (l0.length : Int)) = true := decide_eq_true c4
          clear c4
          by_cases c5 : 0 ≤ x13_1
          · rw [if_pos c5] at H
            have c5b0 : decide (0 ≤ x13_1) = true := decide_eq_true c5
            clear c5
            by_cases c6 : x13_1 < (l0.length : Int)
            · rw [if_pos c6] at H
              have c6b0 : decide (x13_1 < (l0.length : Int)) = true := decide_eq_true c6
              clear c6
              by_cases c7 : x13_1 < (l1.length : Int)
              · rw [if_pos c7] at H
                have c7b0 : decide (x13_1 < (l1.length : Int)) = true := decide_eq_true c7
                clear c7
                by_cases c8 : (!(((rd_T48 l0 x13_1).f0) == ((rd_T48 l1 x13_1).f0)) || (!((((rd_T48 l0 x13_1).f1).toList) == (((rd_T48 l1 x13_1).f1).toList)))) = true
                · rw [if_pos c8] at H
                  have c8b0 : (!(((rd_T48 l0 x13_1).f0) == ((rd_T48 l1 x13_1).f0)) || (!((((rd_T48 l0 x13_1).f1).toList) == (((rd_T48 l1 x13_1).f1).toList)))) = true := c8
                  clear c8
                  obtain rfl := Option.some.inj H
                  have p145 : 0 ≤ (x13_1 : Int) := of_decide_eq_true (by first | (with_reducible assumption) | assumption)
                  have q145 : x13_1 < (l0.length : Int) := of_decide_eq_true (by first | (with_reducible assumption) | assumption)
                  obtain ⟨ad145, e145, hx145_0, hx145_1⟩ := at_T48 HR0.out x13_1 p145 q145
                  cases e145
                  replace p145 := eq_true p145
                  replace q145 := eq_true q145
                  have p146 : 0 ≤ (x13_1 : Int) := of_decide_eq_true (by first | (with_reducible assumption) | assumption)
                  have q146 : x13_1 < (l1.length : Int) := of_decide_eq_true (by first | (with_reducible assumption) | assumption)
                  obtain ⟨ad146, e146, hx146_0, hx146_1⟩ := at_T48 HR1.out x13_1 p146 q146
                  cases e146
                  replace p146 := eq_true p146
                  replace q146 := eq_true q146
                  go_wp2
                  repeat (go_quiet (fail); try go_wp2)
                  go_ret
                  exact ⟨by first | rfl | (simp; done) | (simp [*]; done) | (simp [bne_nil_]; done), by repeat (first | exact Drawn0.refl _ | apply Drawn0.step)⟩
                · rw [if_neg c8] at H
                  have c8b0 : (!(((rd_T48 l0 x13_1).f0) == ((rd_T48 l1 x13_1).f0)) || (!((((rd_T48 l0 x13_1).f1).toList) == (((rd_T48 l1 x13_1).f1).toList)))) = false := by simpa using c8
                  clear c8
                  have H' := Aside0.mk H
                  clear H
                  have p145 : 0 ≤ (x13_1 : Int) := of_decide_eq_true (by first | (with_reducible assumption) | assumption)
                  have q145 : x13_1 < (l0.length : Int) := of_decide_eq_true (by first | (with_reducible assumption) | assumption)
                  obtain ⟨ad145, e145, hx145_0, hx145_1⟩ := at_T48 HR0.out x13_1 p145 q145
                  cases e145
                  replace p145 := eq_true p145
                  replace q145 := eq_true q145
                  have p146 : 0 ≤ (x13_1 : Int) := of_decide_eq_true (by first | (with_reducible assumption) | assumption)
                  have q146 : x13_1 < (l1.length : Int) := of_decide_eq_true (by first | (with_reducible assumption) | assumption)
                  obtain ⟨ad146, e146, hx146_0, hx146_1⟩ := at_T48 HR1.out x13_1 p146 q146
                  cases e146
                  replace p146 := eq_true p146
                  replace q146 := eq_true q146
                  go_wp2
                  repeat (go_quiet (fail); try go_wp2)
                  go_roundg k1
                  case measure => have := HK1.out; omega
                  case rel => exact ⟨(wrap64 (x13_1 + 1)), (by first | rfl | (simp; done) | (simp [*]; done) | (simp [bne_nil_]; done)), H', ⟨by have := HK1.out; omega⟩, by repeat (first | exact Drawn0.refl _ | apply Drawn0.step)⟩
              · rw [if_neg c7] at H
                exact absurd H (by simp)
            · rw [if_neg c6] at H
              exact absurd H (by simp)
          · rw [if_neg c5] at H
            exact absurd H (by simp)
        · rw [if_neg c4] at H
          have c4b0 : decide (x13_1 < (l0.length : Int)) = false := decide_eq_false c4
          clear c4
          obtain rfl := Option.some.inj H
          go_wp2
          repeat (go_quiet (fail); try go_wp2)
          go_ret
          exact ⟨by first | rfl | (simp; done) | (simp [*]; done) | (simp [bne_nil_]; done), by repeat (first | exact Drawn0.refl _ | apply Drawn0.step)⟩
  · rw [if_neg c3] at H
    have c3b0 : ((l0.length : Int) == (l1.length : Int)) = false := beq_eq_false_iff_ne.mpr c3
    have c3b1 : ((l0.length : Int) != (l1.length : Int)) = true := bne_iff_ne.mpr c3
    have c3b2 : (l0.length == l1.length) = false := by first | simpa using c3 | (simp at c3 ⊢; omega)
    obtain rfl := Option.some.inj H
    go_enter Tryz.func8, Tryz.ntmps8
    go_wp2
    repeat (go_quiet (fail); try go_wp2)
    go_ret
    exact ⟨by first | rfl | (simp; done) | (simp [*]; done) | (simp [bne_nil_]; done), by repeat (first | exact Drawn0.refl _ | apply Drawn0.step)⟩

end Go.Proofs.YtcjpponhaigabaaGreatDoor.QH
