-- Written by a working copy of the kit's print program, turned at a few places by wip/tool/mkprint.py. Lean checks it.
import Derived.Test.YtdliagehkiihpaaGreatDoorQUx0
namespace Go.Proofs.YtdliagehkiihpaaGreatDoor.QU
open Go.RowKit Go.Proofs.YtdliagehkiihpaaGreatDoorW.PrintWords Go.Proofs.YtdliagehkiihpaaGreatDoorW.PrintLast Go.Proofs.YtdliagehkiihpaaGreatDoorW.PrintMore
attribute [local go_sem] max2_int min2_int max_two min_two max_three min_three max_four min_four   -- for this text's walks alone
set_option linter.unusedVariables false
set_option linter.unusedSimpArgs false

/-! ### impl_plains: function 64 -/
def impl_plains.l0 : Nat → List (S64) → List (S109) → Int → Int → Option ((List (S64)))
  | 0, _, _, _, _ => none
  | k + 1, x3, x6, x7, x8 => if x8 < x7 then (if 0 ≤ x8 then (if x8 < (x6.length : Int) then (if x3.length < 5864062014805 then (impl_plains.l0 k (x3 ++ [(⟨(rd_T109 x6 x8).f0, (rd_T109 x6 x8).f1⟩ : S64)]) x6 x7 (wrap64 (x8 + 1))) else (none)) else (none)) else (none)) else (some x3)
def impl_plains.f (k : Nat) (l0 : List (S109)) : Option ((List (S64))) := impl_plains.l0 k ([] : List (S64)) l0 (l0.length : Int) 0
theorem impl_plains.mono_l : ∀ k, (∀ y0 y1 y2 y3, LeO (impl_plains.l0 k y0 y1 y2 y3) (impl_plains.l0 (k + 1) y0 y1 y2 y3))
  | 0 => fun _ _ _ _ r h => by simp [impl_plains.l0] at h
  | k + 1 => by
    have ih0 := impl_plains.mono_l k
    · intro y0 y1 y2 y3
      unfold impl_plains.l0
      repeat' first
      | (with_reducible exact ih0 _ _ _ _)
      | (with_reducible exact LeO.refl _)
      | (with_reducible exact LeO.none _)
      | (with_reducible refine LeO.ite ?_ ?_)
      | (with_reducible refine LeO.bind ?_ (fun _ => ?_))
      | exact ih0 _ _ _ _
      | exact LeO.none _
      | refine LeO.ite ?_ ?_
      | refine LeO.bind ?_ (fun _ => ?_)
theorem impl_plains.mono : ∀ a0 k, LeO (impl_plains.f k a0) (impl_plains.f (k + 1) a0) := by
  intro a0 k
  have ih0 := impl_plains.mono_l k
  unfold impl_plains.f
  repeat' first
      | (with_reducible exact ih0 _ _ _ _)
      | (with_reducible exact LeO.refl _)
      | (with_reducible exact LeO.none _)
      | (with_reducible refine LeO.ite ?_ ?_)
      | (with_reducible refine LeO.bind ?_ (fun _ => ?_))
      | exact ih0 _ _ _ _
      | exact LeO.none _
      | refine LeO.ite ?_ ?_
      | refine LeO.bind ?_ (fun _ => ?_)
set_option maxHeartbeats 8000000 in
set_option maxRecDepth 100000 in
theorem impl_plains.calls (k : Nat) (A0 : Option Addr) (c0 : Nat) (l0 : List (S109)) (r : List (S64)) (w : World) (hr0 : Kd.C k109 w A0 l0.length l0) (hc0 : l0.length ≤ c0) (h : impl_plains.f k l0 = some r) :
    Calls Tryz.prog 64 #[.slice A0 l0.length c0] w fun e w' => ∃ v0_ : Value, e = .returned (v0_) ∧ Kd.R k64 64 w' w.heap.size (fun _ => True) v0_ r ∧ Below w.heap.size w w' := by
  have hu109 := Tryz.underlying109
  have HR0 := Aside0.mk hr0
  have HC0 := Aside0.mk hc0
  clear hr0 hc0
  have HB := Aside0.mk (Below.refl w.heap.size w)
  have H : (impl_plains.l0 k ([] : List (S64)) l0 (l0.length : Int) 0) = some r := h
  clear h
  have H' := Aside0.mk H
  clear H
  go_enter Tryz.func64, Tryz.ntmps64
  go_wp2
  go_loopg [3, 8] k (fun kq v3 v8 w' => ∃ (x3_1 : List (S64)) (x8_1 : Int), v8 = .int .i64 x8_1 ∧ Aside0 (impl_plains.l0 kq x3_1 l0 (l0.length : Int) x8_1 = some r) ∧ Aside0 (kq ≤ k) ∧ Aside0 (Kd.R k64 64 w' w.heap.size (fun _ => True) v3 x3_1) ∧ Aside0 (Below w.heap.size w w'))
  case atStart => exact ⟨(([] : List (S64))), (0), (by first | rfl | (simp; done) | (simp [*]; done) | (simp [bne_nil_]; done)), H', ⟨Nat.le_refl _⟩, ⟨by first | exact Kd.R_nil _ _ _ _ _ | exact Kd.N_nil _ _ _ _ _ | exact Kd.V_nil _ _ _ _ _ | exact Kd.Q_nil _ _ _ _ _ | exact Kd.S_nil _ _ _ _ _⟩, ⟨by repeat (first | (with_reducible first | exact HB.out | apply below_alloc | apply pw_below_drewN | apply below_drew1) | exact HB.out)⟩⟩
  case round =>
    clear H'
    obtain ⟨x3_1, x8_1, rfl, HA, HK1, HO_3, HB⟩ := hrel
    cases gk with
    | zero => exact absurd HA.out (by simp [impl_plains.l0])
    | succ k1 =>
      have H := HA.out
      clear HA
      simp only [impl_plains.l0] at H
      by_cases c2 : x8_1 < (l0.length : Int)
      · rw [if_pos c2] at H
        have c2b0 : decide (x8_1 < (l0.length : Int)) = true := decide_eq_true c2
        clear c2
        by_cases c3 : 0 ≤ x8_1
        · rw [if_pos c3] at H
          have c3b0 : decide (0 ≤ x8_1) = true := decide_eq_true c3
          clear c3
          by_cases c4 : x8_1 < (l0.length : Int)
          · rw [if_pos c4] at H
            have c4b0 : decide (x8_1 < (l0.length : Int)) = true := decide_eq_true c4
            clear c4
            by_cases c5 : x3_1.length < 5864062014805
            · rw [if_pos c5] at H
              have LMc5 := Aside0.mk c5
              clear c5
              obtain ⟨y103, hy103⟩ : ∃ y_ : List (S64), y_ = (x3_1 ++ [(⟨(rd_T109 l0 x8_1).f0, (rd_T109 l0 x8_1).f1⟩ : S64)]) := ⟨_, rfl⟩
              replace H : (impl_plains.l0 k1 y103 l0 (l0.length : Int) (wrap64 (x8_1 + 1))) = some r := by first | (rw [hy103]; with_reducible exact H) | (have H2_ := (Option.bind_some _ _).symm.trans H; rw [hy103]; with_reducible exact H2_) | (have H2_ := (Option.bind_some _ _).symm.trans H; with_reducible exact H2_) | with_reducible exact H | (rw [hy103]; exact H) | exact H
              have Ny103 := Aside0.mk hy103
              clear hy103
              have H' := Aside0.mk H
              clear H
              have p101 : 0 ≤ (x8_1 : Int) := of_decide_eq_true (by first | (with_reducible assumption) | assumption)
              have q101 : x8_1 < (l0.length : Int) := of_decide_eq_true (by first | (with_reducible assumption) | assumption)
              obtain ⟨ad101, e101, hx101_0, hx101_1⟩ := at_T109 HR0.out x8_1 p101 q101
              cases e101
              replace hx101_0 := (HB.out.cell (World.block_lt_of_cell? w _ hx101_0)).trans hx101_0
              replace hx101_1 := (HB.out.cell (World.block_lt_of_cell? w _ hx101_1)).trans hx101_1
              replace p101 := eq_true p101
              replace q101 := eq_true q101
              go_wp2_with (first | ((with_reducible refine gate_dst (N := 5) rfl ?_); refine box_event ?hg (N := 5) ?hd (cs := #[.bool false, .string (⟨#[]⟩ : ByteArray)]) (t := 109) ?hr ?_; (case hd => rfl); (case hg => rfl); (case hr => first | (go_simp; done) | (go_simp; rfl)); intro gb102 hg w6 hbox hb; have n0_ := Aside0.mk (Kd.R_below (by (with_reducible repeat (first | apply Kd.R_alloc | apply Kd.R_drewN | apply Kd.R_drew)); exact HO_3.out) hb); have n1_ := Aside0.mk (below_step (by repeat (first | (with_reducible first | exact HB.out | apply below_alloc | apply pw_below_drewN | apply below_drew1) | exact HB.out)) hb); have n2_ := Aside0.mk (hbox); have n3_ := Aside0.mk ((by rw [hg]; exact (below_size (by repeat (first | (with_reducible first | exact HB.out | apply below_alloc | apply pw_below_drewN | apply below_drew1) | exact HB.out))) : w.heap.size ≤ gb102)); have n4_ := Aside0.mk ((by rw [hg]; exact (below_size (by repeat (first | (with_reducible first | exact HB.out | apply below_alloc | apply pw_below_drewN | apply below_drew1) | exact HB.out))) : w.heap.size ≤ gb102)); clear HO_3; clear HB; have HO_3 := n0_; have HB := n1_; have BK102 := n2_; have GW102 := n3_; have GE102 := n4_; clear n0_ n1_ n2_ n3_ n4_; clear hb hbox hg; have hcz7_0 : w6.cell? ⟨gb102, 0, none⟩ = some (.bool false) := (blk_cell BK102.out 0).trans rfl; have hcz7_1 : w6.cell? ⟨gb102, 1, none⟩ = some (.string (⟨#[]⟩ : ByteArray)) := (blk_cell BK102.out 1).trans rfl; have hfz7_0 := blk_frozen BK102.out 0; have hfz7_1 := blk_frozen BK102.out 1) | ((with_reducible refine gate_builtin (b := .append) (xs := #[.tmp 12, .tmp 14]) rfl ?_); at_builtin; refine Kd.R_append k64 (w0 := w) w.heap.size rfl (.tmp 12) (.tmp 14) 35 64 (.agg #[(.bool false), (.string ⟨#[]⟩)]) 24 rfl Tryz.underlying35 info64 rfl (by decide) (by omega) u3 x3_1 (⟨(rd_T109 l0 x8_1).f0, (rd_T109 l0 x8_1).f1⟩ : S64) [.bool ((rd_T109 l0 x8_1).f0), .string ((rd_T109 l0 x8_1).f1)] (fun _ => True) (fun _ => False) rfl (by first | (go_simp; done) | (go_simp; rfl)) ?aP (fun _ hk => hk.elim) ?aF ?aO ?aB ?aS ?aL ?_; (case aP => exact k64_mkM _ _ _ (⟨(rd_T109 l0 x8_1).f0, (rd_T109 l0 x8_1).f1⟩ : S64)); (case aB => exact (by repeat (first | (with_reducible first | exact HB.out | apply below_alloc | apply pw_below_drewN | apply below_drew1 | refine below_set ?_ GE102.out) | exact HB.out))); (case aF => exact (fun _ _ => trivial)); (case aO => exact (by (with_reducible repeat (first | apply Kd.R_alloc | apply Kd.R_drewN | apply Kd.R_drew)); exact Kd.R_mono (Kd.R_far (p := ⟨gb102, 1, none⟩) (Kd.R_far (p := ⟨gb102, 0, none⟩) (Kd.R_types HO_3.out BK102.out (by decide)) (fun _ hk => hk.2) (.bool ((rd_T109 l0 x8_1).f0))) (fun _ hk => hk.2) (.string ((rd_T109 l0 x8_1).f1))) (fun _ hk => trivial))); (case aS => exact (below_size (by repeat (first | (with_reducible first | exact HB.out | apply below_alloc | apply pw_below_drewN | apply below_drew1 | refine below_set ?_ GE102.out) | exact HB.out)))); (case aL => have := LMc5.out; omega); intro v104 w8 ho hb hg hat; rw [← Ny103.out] at ho; have n0_ := Aside0.mk (blk_grown (g := gb102) (o := .cells #[.bool ((rd_T109 l0 x8_1).f0), .string ((rd_T109 l0 x8_1).f1)] 109 (0, 0)) (by (with_reducible repeat (first | refine blk_drewN ?_ _ | refine blk_drew ?_ | refine blk_alloc ?_ _)); refine blk_put (cs := #[.bool ((rd_T109 l0 x8_1).f0), .string (⟨#[]⟩ : ByteArray)]) ?_ 1 _ rfl; (with_reducible repeat (first | refine blk_drewN ?_ _ | refine blk_drew ?_ | refine blk_alloc ?_ _)); refine blk_put (cs := #[.bool false, .string (⟨#[]⟩ : ByteArray)]) ?_ 0 _ rfl; (with_reducible repeat (first | refine blk_drewN ?_ _ | refine blk_drew ?_ | refine blk_alloc ?_ _)); exact BK102.out) hg (Kd.R_ne HO_3.out BK102.out (by decide))); have n1_ := Aside0.mk (hb); have n2_ := Aside0.mk (ho); clear BK102; clear HB; clear HO_3; have BK102 := n0_; have HB := n1_; have HO105 := n2_; clear n0_ n1_ n2_; clear ho hb hg hat))
              go_roundg k1
              case measure => have := HK1.out; omega
              case rel => exact ⟨(y103), (wrap64 (x8_1 + 1)), (by first | rfl | (simp; done) | (simp [*]; done) | (simp [bne_nil_]; done)), H', ⟨by have := HK1.out; omega⟩, ⟨by (with_reducible repeat (first | apply Kd.R_alloc | apply Kd.R_drewN | apply Kd.R_drew)); exact HO105.out⟩, ⟨by repeat (first | (with_reducible first | exact HB.out | apply below_alloc | apply pw_below_drewN | apply below_drew1 | refine below_set ?_ GE102.out) | exact HB.out)⟩⟩
            · rw [if_neg c5] at H
              exact absurd H (by simp)
          · rw [if_neg c4] at H
            exact absurd H (by simp)
        · rw [if_neg c3] at H
          exact absurd H (by simp)
      · rw [if_neg c2] at H
        have c2b0 : decide (x8_1 < (l0.length : Int)) = false := decide_eq_false c2
        clear c2
        obtain rfl := Option.some.inj H
        go_wp2
        go_ret
        exact ⟨_, by first | rfl | (simp [errW_none, errW_some] <;> rfl) | (simp [*, errW_none, errW_some] <;> rfl) | (simp [bne_nil_]; done), by (with_reducible repeat (first | apply Kd.R_alloc | apply Kd.R_drewN | apply Kd.R_drew)); exact HO_3.out, by repeat (first | (with_reducible first | exact HB.out | apply below_alloc | apply pw_below_drewN | apply below_drew1) | exact HB.out)⟩

/-! ### impl_plainLike: function 46 -/
def impl_plainLike.f (k : Nat) (a0_0 : Bool) (l0_1 : List (S109)) (a0_2 : ByteArray) (a0_3 : ByteArray) : Option (Bool × (List (S64)) × ByteArray × ByteArray) := (impl_plains.f k l0_1).bind fun t108 => (some (a0_0, t108, a0_2, a0_3))
theorem impl_plainLike.mono : ∀ a0 a1 a2 a3 k, LeO (impl_plainLike.f k a0 a1 a2 a3) (impl_plainLike.f (k + 1) a0 a1 a2 a3) := by
  intro a0 a1 a2 a3 k
  unfold impl_plainLike.f
  repeat' first
      | (with_reducible exact impl_plains.mono _ _)
      | (with_reducible exact LeO.refl _)
      | (with_reducible exact LeO.none _)
      | (with_reducible refine LeO.ite ?_ ?_)
      | (with_reducible refine LeO.bind ?_ (fun _ => ?_))
      | exact impl_plains.mono _ _
      | exact LeO.none _
      | refine LeO.ite ?_ ?_
      | refine LeO.bind ?_ (fun _ => ?_)
def impl_plainLike.T1 : Bool × List (List Nat × List Nat) := (true, [([], []), ([0], [0]), ([], []), ([2], [2]), ([3], [3]), ([], []), ([5], [5]), ([], []), ([7], [7]), ([1, 4, 6, 8], [1, 4, 6, 8]), ([9, 4, 0, 1, 2, 3, 4, 5, 6, 7, 8, 9], [9])])
def impl_plainLike.B1 : List Nat := [0, 1, 0, 4, 12, 0, 32, 0, 128, 511, 1023]
theorem impl_plainLike.tab1 : rtab .any (opsOf Tryz.f46 1) = impl_plainLike.T1 := by kernel_rfl
theorem impl_plainLike.bits1 : waitsOk impl_plainLike.T1.2 impl_plainLike.B1 = true := by kernel_rfl
set_option maxHeartbeats 8000000 in
set_option maxRecDepth 100000 in
theorem impl_plainLike.calls (k : Nat) (a0_0 : Bool) (A0_1 : Option Addr) (c0_1 : Nat) (l0_1 : List (S109)) (a0_2 : ByteArray) (a0_3 : ByteArray) (r1 : Bool) (r2 : List (S64)) (r3 : ByteArray) (r4 : ByteArray) (w : World) (hr0_1 : Kd.C k109 w A0_1 l0_1.length l0_1) (hc0_1 : l0_1.length ≤ c0_1) (h : impl_plainLike.f k a0_0 l0_1 a0_2 a0_3 = some (r1, r2, r3, r4)) :
    Calls Tryz.prog 46 #[.agg #[.bool a0_0, .slice A0_1 l0_1.length c0_1, .string a0_2, .string a0_3]] w fun e w' => ∃ v1_ : Value, e = .returned (.agg #[.bool r1, v1_, .string r3, .string r4]) ∧ Kd.R k64 64 w' w.heap.size (fun _ => True) v1_ r2 ∧ Below w.heap.size w w' := by
  have hu70 := Tryz.underlying70
  have hu37 := Tryz.underlying37
  have HR0_1 := Aside0.mk hr0_1
  have HC0_1 := Aside0.mk hc0_1
  clear hr0_1 hc0_1
  have HB := Aside0.mk (Below.refl w.heap.size w)
  have H : ((impl_plains.f k l0_1).bind fun t108 => (some (a0_0, t108, a0_2, a0_3))) = some (r1, r2, r3, r4) := h
  clear h
  replace H := Option.bind_eq_some_iff.mp H
  obtain ⟨t108, A20, H⟩ := H
  replace H : (some (a0_0, t108, a0_2, a0_3)) = some (r1, r2, r3, r4) := H
  have A2 := Aside0.mk A20
  clear A20
  simp only [Option.some.injEq, Prod.mk.injEq] at H
  obtain ⟨rfl, rfl, rfl, rfl⟩ := H
  go_enter Tryz.func46, Tryz.ntmps46
  try go_wp2_with (first | ((with_reducible refine gate_dst (N := 1) rfl ?_); refine box_event ?hg (N := 1) ?hd (cs := #[.bool a0_0, .slice A0_1 l0_1.length c0_1, .string a0_2, .string a0_3]) (t := 70) ?hr ?_; (case hd => rfl); (case hg => rfl); (case hr => first | (go_simp; done) | (go_simp; rfl)); intro gb106 hg w3 hbox hb; have n0_ := Aside0.mk (below_step (by repeat (first | (with_reducible first | exact HB.out | apply below_alloc | apply pw_below_drewN | apply below_drew1) | exact HB.out)) hb); have n1_ := Aside0.mk (hbox); have n2_ := Aside0.mk ((by rw [hg]; exact (below_size (by repeat (first | (with_reducible first | exact HB.out | apply below_alloc | apply pw_below_drewN | apply below_drew1) | exact HB.out))) : w.heap.size ≤ gb106)); have n3_ := Aside0.mk ((by rw [hg]; exact (below_size (by repeat (first | (with_reducible first | exact HB.out | apply below_alloc | apply pw_below_drewN | apply below_drew1) | exact HB.out))) : w.heap.size ≤ gb106)); clear HB; have HB := n0_; have BK106 := n1_; have GW106 := n2_; have GE106 := n3_; clear n0_ n1_ n2_ n3_; clear hb hbox hg) | ((with_reducible refine gate_dst (N := 2) rfl ?_); refine box_event ?hg (N := 2) ?hd (cs := #[.bool false, .slice none 0 0, .string (⟨#[]⟩ : ByteArray), .string (⟨#[]⟩ : ByteArray)]) (t := 37) ?hr ?_; (case hd => rfl); (case hg => rfl); (case hr => first | (go_simp; done) | (go_simp; rfl)); intro gb107 hg w4 hbox hb; have n0_ := Aside0.mk (blk_below (g := gb106) (o := .cells #[.bool a0_0, .slice A0_1 l0_1.length c0_1, .string a0_2, .string a0_3] 70 (0, 0)) (by (with_reducible repeat (first | refine blk_drewN ?_ _ | refine blk_drew ?_ | refine blk_alloc ?_ _)); exact BK106.out) hb); have n1_ := Aside0.mk (below_step (by repeat (first | (with_reducible first | exact HB.out | apply below_alloc | apply pw_below_drewN | apply below_drew1 | refine below_set ?_ GE106.out) | exact HB.out)) hb); have n2_ := Aside0.mk (hbox); have n3_ := Aside0.mk ((by rw [hg]; exact (below_size (by repeat (first | (with_reducible first | exact HB.out | apply below_alloc | apply pw_below_drewN | apply below_drew1 | refine below_set ?_ GE106.out) | exact HB.out))) : w.heap.size ≤ gb107)); have n4_ := Aside0.mk ((by rw [hg]; exact (below_size (by repeat (first | (with_reducible first | exact HB.out | apply below_alloc | apply pw_below_drewN | apply below_drew1 | refine below_set ?_ GE106.out) | exact HB.out))) : w.heap.size ≤ gb107)); have n5_ := Aside0.mk ((by rw [hg]; exact Nat.ne_of_lt (blk_lt (g := gb106) (o := .cells #[.bool a0_0, .slice A0_1 l0_1.length c0_1, .string a0_2, .string a0_3] 70 (0, 0)) (by (with_reducible repeat (first | refine blk_drewN ?_ _ | refine blk_drew ?_ | refine blk_alloc ?_ _)); exact BK106.out)) : gb106 ≠ gb107)); have n6_ := Aside0.mk ((by rw [hg]; exact Nat.ne_of_gt (blk_lt (g := gb106) (o := .cells #[.bool a0_0, .slice A0_1 l0_1.length c0_1, .string a0_2, .string a0_3] 70 (0, 0)) (by (with_reducible repeat (first | refine blk_drewN ?_ _ | refine blk_drew ?_ | refine blk_alloc ?_ _)); exact BK106.out)) : gb107 ≠ gb106)); clear BK106; clear HB; have BK106 := n0_; have HB := n1_; have BK107 := n2_; have GW107 := n3_; have GE107 := n4_; have NB106_107 := n5_; have NB107_106 := n6_; clear n0_ n1_ n2_ n3_ n4_ n5_ n6_; clear hb hbox hg))
  have n0_ := Aside0.mk (blk_drew BK106.out)
  have n1_ := Aside0.mk (blk_drew BK107.out)
  have n2_ := Aside0.mk (below_drew1 HB.out)
  clear BK106
  clear BK107
  clear HB
  have BK106 := n0_
  have BK107 := n1_
  have HB := n2_
  clear n0_ n1_ n2_
  refine start_ (n := 11) (S := fun w' => w'.cell? ⟨gb106, 0, none⟩ = some (.bool a0_0) ∧ w'.cell? ⟨gb106, 1, none⟩ = some (.slice A0_1 l0_1.length c0_1) ∧ w'.cell? ⟨gb106, 2, none⟩ = some (.string a0_2) ∧ w'.cell? ⟨gb106, 3, none⟩ = some (.string a0_3)) (ds := []) #[false, false, false, false, false, false, false, false, false, false, false] (by kernel_rfl) rfl rfl ⟨(blk_cell BK106.out 0).trans rfl, (blk_cell BK106.out 1).trans rfl, (blk_cell BK106.out 2).trans rfl, (blk_cell BK106.out 3).trans rfl⟩ (fun hHeld => ?_); refine with_tabW impl_plainLike.tab1 impl_plainLike.bits1 (fun HT_ HW_ => ?_)
  generalize w4.drew = w5 at BK106 BK107 HB hHeld ⊢
  refine pure_ (i := 0) (N := some 3) (v := ?_) (a' := ?_) #[true, false, false, false, false, false, false, false, false, false, false] rfl rfl (any_of HT_.out (by kernel_rfl)) (fun _ _ _ h => h) (Or.inl ⟨by rfl, ?_⟩) ?_ ?_
  rotate_left
  · intro w'
    go_simp
    with_reducible rfl
  rotate_left
  · simp only [Act.put, List.setIfInBounds_toArray, List.set_cons_zero, List.set_cons_succ, i64_w, i32_w]
    rfl
  refine pure_ (i := 2) (N := some 5) (v := ?_) (a' := ?_) #[true, false, true, false, false, false, false, false, false, false, false] rfl rfl (any_of HT_.out (by kernel_rfl)) (fun _ _ _ h => h) (Or.inl ⟨by rfl, ?_⟩) ?_ ?_
  rotate_left
  · intro w'
    go_simp
    with_reducible rfl
  rotate_left
  · simp only [Act.put, List.setIfInBounds_toArray, List.set_cons_zero, List.set_cons_succ, i64_w, i32_w]
    rfl
  refine pure_ (i := 5) (N := some 8) (v := ?_) (a' := ?_) #[true, false, true, false, false, true, false, false, false, false, false] rfl rfl (any_of HT_.out (by kernel_rfl)) (fun _ _ _ h => h) (Or.inl ⟨by rfl, ?_⟩) ?_ ?_
  rotate_left
  · intro w'
    go_simp
    with_reducible rfl
  rotate_left
  · simp only [Act.put, List.setIfInBounds_toArray, List.set_cons_zero, List.set_cons_succ, i64_w, i32_w]
    rfl
  refine pure_ (i := 7) (N := some 10) (v := ?_) (a' := ?_) #[true, false, true, false, false, true, false, true, false, false, false] rfl rfl (any_of HT_.out (by kernel_rfl)) (fun _ _ _ h => h) (Or.inl ⟨by rfl, ?_⟩) ?_ ?_
  rotate_left
  · intro w'
    go_simp
    with_reducible rfl
  rotate_left
  · simp only [Act.put, List.setIfInBounds_toArray, List.set_cons_zero, List.set_cons_succ, i64_w, i32_w]
    rfl
  refine take_ (i := 1) (N := some 4) (v := ?_) (a' := ?_) #[true, true, true, false, false, true, false, true, false, false, false] rfl rfl (take_ofW HT_.out HW_.out (by kernel_rfl)) (fun _ _ _ h => h) (Or.inl ⟨by rfl, ?_⟩) hHeld ?_ ?_
  rotate_left
  · rintro w' ⟨s0, s1, s2, s3⟩
    go_simp
    with_reducible rfl
  rotate_left
  · simp only [Act.put, List.setIfInBounds_toArray, List.set_cons_zero, List.set_cons_succ, i64_w, i32_w]
    rfl
  refine take_ (i := 3) (N := some 6) (v := ?_) (a' := ?_) #[true, true, true, true, false, true, false, true, false, false, false] rfl rfl (take_ofW HT_.out HW_.out (by kernel_rfl)) (fun _ _ _ h => h) (Or.inl ⟨by rfl, ?_⟩) hHeld ?_ ?_
  rotate_left
  · rintro w' ⟨s0, s1, s2, s3⟩
    go_simp
    with_reducible rfl
  rotate_left
  · simp only [Act.put, List.setIfInBounds_toArray, List.set_cons_zero, List.set_cons_succ, i64_w, i32_w]
    rfl
  refine take_ (i := 6) (N := some 9) (v := ?_) (a' := ?_) #[true, true, true, true, false, true, true, true, false, false, false] rfl rfl (take_ofW HT_.out HW_.out (by kernel_rfl)) (fun _ _ _ h => h) (Or.inl ⟨by rfl, ?_⟩) hHeld ?_ ?_
  rotate_left
  · rintro w' ⟨s0, s1, s2, s3⟩
    go_simp
    with_reducible rfl
  rotate_left
  · simp only [Act.put, List.setIfInBounds_toArray, List.set_cons_zero, List.set_cons_succ, i64_w, i32_w]
    rfl
  refine take_ (i := 8) (N := some 11) (v := ?_) (a' := ?_) #[true, true, true, true, false, true, true, true, true, false, false] rfl rfl (take_ofW HT_.out HW_.out (by kernel_rfl)) (fun _ _ _ h => h) (Or.inl ⟨by rfl, ?_⟩) hHeld ?_ ?_
  rotate_left
  · rintro w' ⟨s0, s1, s2, s3⟩
    go_simp
    with_reducible rfl
  rotate_left
  · simp only [Act.put, List.setIfInBounds_toArray, List.set_cons_zero, List.set_cons_succ, i64_w, i32_w]
    rfl
  refine one_ (i := 4) (N := some 7) #[true, true, true, true, true, true, true, true, true, false, false] rfl rfl (one_of HT_.out (by kernel_rfl)) (by decide) (fun K hK => ?_)
  refine goes_ Tryz.func64 (by kernel_rfl) rfl #[.slice A0_1 l0_1.length c0_1] (by rfl) rfl rfl (by (try simp only [List.map_toArray, List.map_cons, List.map_nil]); first | done | rfl | (simp only [List.length_drop, List.length_take]; rfl)) ?_
  with_reducible refine (impl_plains.calls k _ _ l0_1 t108 _ ?side1 ?side2 A2.out).mono ?_
  (case side1 => repeat (first | exact (Kd.C_below HR0_1.out HB.out) | (with_reducible refine Kd.C_alloc ?_ _) | (with_reducible refine Kd.C_drewN ?_ _) | (with_reducible refine Kd.C_drew ?_)))
  (case side2 => exact HC0_1.out)
  rintro e w6 ⟨v109, rfl, ho0, hb⟩
  refine ⟨_, rfl, ?_⟩
  have n0_ := Aside0.mk (Kd.R_lower ho0 (below_size (by repeat (first | (with_reducible first | exact HB.out | apply below_alloc | apply pw_below_drewN | apply below_drew1 | refine below_set ?_ GE106.out | refine below_set ?_ GE107.out) | exact HB.out))))
  have n1_ := Aside0.mk (blk_below (g := gb106) (o := .cells #[.bool a0_0, .slice A0_1 l0_1.length c0_1, .string a0_2, .string a0_3] 70 (0, 0)) (by (with_reducible repeat (first | refine blk_drewN ?_ _ | refine blk_drew ?_ | refine blk_alloc ?_ _)); exact BK106.out) hb)
  have n2_ := Aside0.mk (blk_below (g := gb107) (o := .cells #[.bool false, .slice none 0 0, .string (⟨#[]⟩ : ByteArray), .string (⟨#[]⟩ : ByteArray)] 37 (0, 0)) (by (with_reducible repeat (first | refine blk_drewN ?_ _ | refine blk_drew ?_ | refine blk_alloc ?_ _)); exact BK107.out) hb)
  have n3_ := Aside0.mk (below_step (by repeat (first | (with_reducible first | exact HB.out | apply below_alloc | apply pw_below_drewN | apply below_drew1 | refine below_set ?_ GE106.out | refine below_set ?_ GE107.out) | exact HB.out)) hb)
  clear BK106
  clear BK107
  clear HB
  have HO110 := n0_
  have BK106 := n1_
  have BK107 := n2_
  have HB := n3_
  clear n0_ n1_ n2_ n3_
  (try clear hb)
  (try clear hb2)
  (try clear hk)
  (try clear hi)
  (try clear ho0)
  obtain ⟨Ao7, co7, eo7⟩ := Kd.R_slice HO110.out
  (first | subst eo7 | (injection eo7 with f1_ f2_ f3_; have f4_ := f1_.symm; have f5_ := f3_.symm; clear f1_ f2_ f3_; subst f4_; subst f5_))
  refine hK.out _ _ ⟨(blk_cell BK106.out 0).trans rfl, (blk_cell BK106.out 1).trans rfl, (blk_cell BK106.out 2).trans rfl, (blk_cell BK106.out 3).trans rfl⟩ (fun hHeld => ?_)
  clear hK K
  refine norm_ (a' := ?_) ?_ ?_
  rotate_left
  · show Act.put _ (some 7) _ = _
    simp only [Act.put, List.setIfInBounds_toArray, List.set_cons_zero, List.set_cons_succ, i64_w, i32_w]
    rfl
  refine pure_ (i := 9) (N := some 12) (v := ?_) (a' := ?_) #[true, true, true, true, true, true, true, true, true, true, false] rfl rfl (any_of HT_.out (by kernel_rfl)) (fun _ _ _ h => h) (Or.inl ⟨by rfl, ?_⟩) ?_ ?_
  rotate_left
  · intro w'
    go_simp
    with_reducible rfl
  rotate_left
  · simp only [Act.put, List.setIfInBounds_toArray, List.set_cons_zero, List.set_cons_succ, i64_w, i32_w]
    rfl
  refine one_ (i := 10) (N := none) #[true, true, true, true, true, true, true, true, true, true, true] rfl rfl (one_of HT_.out (by kernel_rfl)) (by decide) (fun K hK => ?_)
  have hs8 : w6.cell? ⟨gb107, 0, none⟩ = some (.bool false) := (blk_cell BK107.out 0).trans rfl
  have hfs8 := blk_frozen BK107.out 0
  have hns8_0 := NB106_107.out
  have hms8_0 := NB107_106.out
  have hs9 : w6.cell? ⟨gb107, 1, none⟩ = some (.slice none 0 0) := (blk_cell BK107.out 1).trans rfl
  have hfs9 := blk_frozen BK107.out 1
  have hns9_0 := NB106_107.out
  have hms9_0 := NB107_106.out
  have hs10 : w6.cell? ⟨gb107, 2, none⟩ = some (.string (⟨#[]⟩ : ByteArray)) := (blk_cell BK107.out 2).trans rfl
  have hfs10 := blk_frozen BK107.out 2
  have hns10_0 := NB106_107.out
  have hms10_0 := NB107_106.out
  have hs11 : w6.cell? ⟨gb107, 3, none⟩ = some (.string (⟨#[]⟩ : ByteArray)) := (blk_cell BK107.out 3).trans rfl
  have hfs11 := blk_frozen BK107.out 3
  have hns11_0 := NB106_107.out
  have hms11_0 := NB107_106.out
  refine skip_ (w1 := ?_) (by rfl) rfl ?_ ?_
  rotate_left
  · go_simp
    rfl
  refine hK.out _ _ ⟨((cell_far (p := ⟨gb107, _, none⟩) NB106_107.out _).trans (((cell_far (p := ⟨gb107, _, none⟩) NB106_107.out _).trans (((cell_far (p := ⟨gb107, _, none⟩) NB106_107.out _).trans (((cell_far (p := ⟨gb107, _, none⟩) NB106_107.out _).trans (hHeld.1)))))))), ((cell_far (p := ⟨gb107, _, none⟩) NB106_107.out _).trans (((cell_far (p := ⟨gb107, _, none⟩) NB106_107.out _).trans (((cell_far (p := ⟨gb107, _, none⟩) NB106_107.out _).trans (((cell_far (p := ⟨gb107, _, none⟩) NB106_107.out _).trans (hHeld.2.1)))))))), ((cell_far (p := ⟨gb107, _, none⟩) NB106_107.out _).trans (((cell_far (p := ⟨gb107, _, none⟩) NB106_107.out _).trans (((cell_far (p := ⟨gb107, _, none⟩) NB106_107.out _).trans (((cell_far (p := ⟨gb107, _, none⟩) NB106_107.out _).trans (hHeld.2.2.1)))))))), ((cell_far (p := ⟨gb107, _, none⟩) NB106_107.out _).trans (((cell_far (p := ⟨gb107, _, none⟩) NB106_107.out _).trans (((cell_far (p := ⟨gb107, _, none⟩) NB106_107.out _).trans (((cell_far (p := ⟨gb107, _, none⟩) NB106_107.out _).trans (hHeld.2.2.2))))))))⟩ (fun hHeld => ?_)
  clear hK K
  refine done_ (done_of HT_.out (by kernel_rfl)) ?_
  try go_wp2
  refine bodyPost_ret (results_cell_row rfl _ _ gb107 37 #[.bool a0_0, .slice Ao7 t108.length co7, .string a0_2, .string a0_3] (0, 0) _ rfl (by (with_reducible repeat (first | refine blk_drewN ?_ _ | refine blk_drew ?_ | refine blk_alloc ?_ _)); refine blk_put (cs := #[.bool a0_0, .slice Ao7 t108.length co7, .string a0_2, .string (⟨#[]⟩ : ByteArray)]) ?_ 3 _ rfl; (with_reducible repeat (first | refine blk_drewN ?_ _ | refine blk_drew ?_ | refine blk_alloc ?_ _)); refine blk_put (cs := #[.bool a0_0, .slice Ao7 t108.length co7, .string (⟨#[]⟩ : ByteArray), .string (⟨#[]⟩ : ByteArray)]) ?_ 2 _ rfl; (with_reducible repeat (first | refine blk_drewN ?_ _ | refine blk_drew ?_ | refine blk_alloc ?_ _)); refine blk_put (cs := #[.bool a0_0, .slice none 0 0, .string (⟨#[]⟩ : ByteArray), .string (⟨#[]⟩ : ByteArray)]) ?_ 1 _ rfl; (with_reducible repeat (first | refine blk_drewN ?_ _ | refine blk_drew ?_ | refine blk_alloc ?_ _)); refine blk_put (cs := #[.bool false, .slice none 0 0, .string (⟨#[]⟩ : ByteArray), .string (⟨#[]⟩ : ByteArray)]) ?_ 0 _ rfl; (with_reducible repeat (first | refine blk_drewN ?_ _ | refine blk_drew ?_ | refine blk_alloc ?_ _)); exact BK107.out) Tryz.underlying37 rfl (by kernel_rfl)) rfl ?_
  exact ⟨_, by first | rfl | (simp [errW_none, errW_some] <;> rfl) | (simp [*, errW_none, errW_some] <;> rfl) | (simp [bne_nil_]; done), by (with_reducible repeat (first | apply Kd.R_alloc | apply Kd.R_drewN | apply Kd.R_drew)); exact Kd.R_mono (Kd.R_far (p := ⟨gb107, 3, none⟩) (Kd.R_far (p := ⟨gb107, 2, none⟩) (Kd.R_far (p := ⟨gb107, 1, none⟩) (Kd.R_far (p := ⟨gb107, 0, none⟩) (Kd.R_types HO110.out BK107.out (by decide)) (fun _ hk => hk.2) (.bool a0_0)) (fun _ hk => hk.2) (.slice Ao7 t108.length co7)) (fun _ hk => hk.2) (.string a0_2)) (fun _ hk => hk.2) (.string a0_3)) (fun _ hk => trivial), by repeat (first | (with_reducible first | exact HB.out | apply below_alloc | apply pw_below_drewN | apply below_drew1 | refine below_set ?_ GE106.out | refine below_set ?_ GE107.out) | exact HB.out)⟩

/-! ### impl_bigs: function 63 -/
def impl_bigs.l0 : Nat → List (S109) → List (S64) → Int → Int → Option ((List (S109)))
  | 0, _, _, _, _ => none
  | k + 1, x3, x6, x7, x8 => if x8 < x7 then (if 0 ≤ x8 then (if x8 < (x6.length : Int) then (if x3.length < 5864062014805 then (impl_bigs.l0 k (x3 ++ [(⟨(rd_T64 x6 x8).f0, (rd_T64 x6 x8).f1⟩ : S109)]) x6 x7 (wrap64 (x8 + 1))) else (none)) else (none)) else (none)) else (some x3)
def impl_bigs.f (k : Nat) (l0 : List (S64)) : Option ((List (S109))) := impl_bigs.l0 k ([] : List (S109)) l0 (l0.length : Int) 0
theorem impl_bigs.mono_l : ∀ k, (∀ y0 y1 y2 y3, LeO (impl_bigs.l0 k y0 y1 y2 y3) (impl_bigs.l0 (k + 1) y0 y1 y2 y3))
  | 0 => fun _ _ _ _ r h => by simp [impl_bigs.l0] at h
  | k + 1 => by
    have ih0 := impl_bigs.mono_l k
    · intro y0 y1 y2 y3
      unfold impl_bigs.l0
      repeat' first
      | (with_reducible exact ih0 _ _ _ _)
      | (with_reducible exact LeO.refl _)
      | (with_reducible exact LeO.none _)
      | (with_reducible refine LeO.ite ?_ ?_)
      | (with_reducible refine LeO.bind ?_ (fun _ => ?_))
      | exact ih0 _ _ _ _
      | exact LeO.none _
      | refine LeO.ite ?_ ?_
      | refine LeO.bind ?_ (fun _ => ?_)
theorem impl_bigs.mono : ∀ a0 k, LeO (impl_bigs.f k a0) (impl_bigs.f (k + 1) a0) := by
  intro a0 k
  have ih0 := impl_bigs.mono_l k
  unfold impl_bigs.f
  repeat' first
      | (with_reducible exact ih0 _ _ _ _)
      | (with_reducible exact LeO.refl _)
      | (with_reducible exact LeO.none _)
      | (with_reducible refine LeO.ite ?_ ?_)
      | (with_reducible refine LeO.bind ?_ (fun _ => ?_))
      | exact ih0 _ _ _ _
      | exact LeO.none _
      | refine LeO.ite ?_ ?_
      | refine LeO.bind ?_ (fun _ => ?_)
set_option maxHeartbeats 8000000 in
set_option maxRecDepth 100000 in
theorem impl_bigs.calls (k : Nat) (A0 : Option Addr) (c0 : Nat) (l0 : List (S64)) (r : List (S109)) (w : World) (hr0 : Kd.C k64 w A0 l0.length l0) (hc0 : l0.length ≤ c0) (h : impl_bigs.f k l0 = some r) :
    Calls Tryz.prog 63 #[.slice A0 l0.length c0] w fun e w' => ∃ v0_ : Value, e = .returned (v0_) ∧ Kd.R k109 109 w' w.heap.size (fun _ => True) v0_ r ∧ Below w.heap.size w w' := by
  have hu64 := Tryz.underlying64
  have HR0 := Aside0.mk hr0
  have HC0 := Aside0.mk hc0
  clear hr0 hc0
  have HB := Aside0.mk (Below.refl w.heap.size w)
  have H : (impl_bigs.l0 k ([] : List (S109)) l0 (l0.length : Int) 0) = some r := h
  clear h
  have H' := Aside0.mk H
  clear H
  go_enter Tryz.func63, Tryz.ntmps63
  go_wp2
  go_loopg [3, 8] k (fun kq v3 v8 w' => ∃ (x3_1 : List (S109)) (x8_1 : Int), v8 = .int .i64 x8_1 ∧ Aside0 (impl_bigs.l0 kq x3_1 l0 (l0.length : Int) x8_1 = some r) ∧ Aside0 (kq ≤ k) ∧ Aside0 (Kd.R k109 109 w' w.heap.size (fun _ => True) v3 x3_1) ∧ Aside0 (Below w.heap.size w w'))
  case atStart => exact ⟨(([] : List (S109))), (0), (by first | rfl | (simp; done) | (simp [*]; done) | (simp [bne_nil_]; done)), H', ⟨Nat.le_refl _⟩, ⟨by first | exact Kd.R_nil _ _ _ _ _ | exact Kd.N_nil _ _ _ _ _ | exact Kd.V_nil _ _ _ _ _ | exact Kd.Q_nil _ _ _ _ _ | exact Kd.S_nil _ _ _ _ _⟩, ⟨by repeat (first | (with_reducible first | exact HB.out | apply below_alloc | apply pw_below_drewN | apply below_drew1) | exact HB.out)⟩⟩
  case round =>
    clear H'
    obtain ⟨x3_1, x8_1, rfl, HA, HK1, HO_3, HB⟩ := hrel
    cases gk with
    | zero => exact absurd HA.out (by simp [impl_bigs.l0])
    | succ k1 =>
      have H := HA.out
      clear HA
      simp only [impl_bigs.l0] at H
      by_cases c2 : x8_1 < (l0.length : Int)
      · rw [if_pos c2] at H
        have c2b0 : decide (x8_1 < (l0.length : Int)) = true := decide_eq_true c2
        clear c2
        by_cases c3 : 0 ≤ x8_1
        · rw [if_pos c3] at H
          have c3b0 : decide (0 ≤ x8_1) = true := decide_eq_true c3
          clear c3
          by_cases c4 : x8_1 < (l0.length : Int)
          · rw [if_pos c4] at H
            have c4b0 : decide (x8_1 < (l0.length : Int)) = true := decide_eq_true c4
            clear c4
            by_cases c5 : x3_1.length < 5864062014805
            · rw [if_pos c5] at H
              have LMc5 := Aside0.mk c5
              clear c5
              obtain ⟨y113, hy113⟩ : ∃ y_ : List (S109), y_ = (x3_1 ++ [(⟨(rd_T64 l0 x8_1).f0, (rd_T64 l0 x8_1).f1⟩ : S109)]) := ⟨_, rfl⟩
              replace H : (impl_bigs.l0 k1 y113 l0 (l0.length : Int) (wrap64 (x8_1 + 1))) = some r := by first | (rw [hy113]; with_reducible exact H) | (have H2_ := (Option.bind_some _ _).symm.trans H; rw [hy113]; with_reducible exact H2_) | (have H2_ := (Option.bind_some _ _).symm.trans H; with_reducible exact H2_) | with_reducible exact H | (rw [hy113]; exact H) | exact H
              have Ny113 := Aside0.mk hy113
              clear hy113
              have H' := Aside0.mk H
              clear H
              have p111 : 0 ≤ (x8_1 : Int) := of_decide_eq_true (by first | (with_reducible assumption) | assumption)
              have q111 : x8_1 < (l0.length : Int) := of_decide_eq_true (by first | (with_reducible assumption) | assumption)
              obtain ⟨ad111, e111, hx111_0, hx111_1⟩ := at_T64 HR0.out x8_1 p111 q111
              cases e111
              replace hx111_0 := (HB.out.cell (World.block_lt_of_cell? w _ hx111_0)).trans hx111_0
              replace hx111_1 := (HB.out.cell (World.block_lt_of_cell? w _ hx111_1)).trans hx111_1
              replace p111 := eq_true p111
              replace q111 := eq_true q111
              go_wp2_with (first | ((with_reducible refine gate_dst (N := 5) rfl ?_); refine box_event ?hg (N := 5) ?hd (cs := #[.bool false, .string (⟨#[]⟩ : ByteArray)]) (t := 64) ?hr ?_; (case hd => rfl); (case hg => rfl); (case hr => first | (go_simp; done) | (go_simp; rfl)); intro gb112 hg w6 hbox hb; have n0_ := Aside0.mk (Kd.R_below (by (with_reducible repeat (first | apply Kd.R_alloc | apply Kd.R_drewN | apply Kd.R_drew)); exact HO_3.out) hb); have n1_ := Aside0.mk (below_step (by repeat (first | (with_reducible first | exact HB.out | apply below_alloc | apply pw_below_drewN | apply below_drew1) | exact HB.out)) hb); have n2_ := Aside0.mk (hbox); have n3_ := Aside0.mk ((by rw [hg]; exact (below_size (by repeat (first | (with_reducible first | exact HB.out | apply below_alloc | apply pw_below_drewN | apply below_drew1) | exact HB.out))) : w.heap.size ≤ gb112)); have n4_ := Aside0.mk ((by rw [hg]; exact (below_size (by repeat (first | (with_reducible first | exact HB.out | apply below_alloc | apply pw_below_drewN | apply below_drew1) | exact HB.out))) : w.heap.size ≤ gb112)); clear HO_3; clear HB; have HO_3 := n0_; have HB := n1_; have BK112 := n2_; have GW112 := n3_; have GE112 := n4_; clear n0_ n1_ n2_ n3_ n4_; clear hb hbox hg; have hcz7_0 : w6.cell? ⟨gb112, 0, none⟩ = some (.bool false) := (blk_cell BK112.out 0).trans rfl; have hcz7_1 : w6.cell? ⟨gb112, 1, none⟩ = some (.string (⟨#[]⟩ : ByteArray)) := (blk_cell BK112.out 1).trans rfl; have hfz7_0 := blk_frozen BK112.out 0; have hfz7_1 := blk_frozen BK112.out 1) | ((with_reducible refine gate_builtin (b := .append) (xs := #[.tmp 12, .tmp 14]) rfl ?_); at_builtin; refine Kd.R_append k109 (w0 := w) w.heap.size rfl (.tmp 12) (.tmp 14) 68 109 (.agg #[(.bool false), (.string ⟨#[]⟩)]) 24 rfl Tryz.underlying68 info109 rfl (by decide) (by omega) u3 x3_1 (⟨(rd_T64 l0 x8_1).f0, (rd_T64 l0 x8_1).f1⟩ : S109) [.bool ((rd_T64 l0 x8_1).f0), .string ((rd_T64 l0 x8_1).f1)] (fun _ => True) (fun _ => False) rfl (by first | (go_simp; done) | (go_simp; rfl)) ?aP (fun _ hk => hk.elim) ?aF ?aO ?aB ?aS ?aL ?_; (case aP => exact k109_mkM _ _ _ (⟨(rd_T64 l0 x8_1).f0, (rd_T64 l0 x8_1).f1⟩ : S109)); (case aB => exact (by repeat (first | (with_reducible first | exact HB.out | apply below_alloc | apply pw_below_drewN | apply below_drew1 | refine below_set ?_ GE112.out) | exact HB.out))); (case aF => exact (fun _ _ => trivial)); (case aO => exact (by (with_reducible repeat (first | apply Kd.R_alloc | apply Kd.R_drewN | apply Kd.R_drew)); exact Kd.R_mono (Kd.R_far (p := ⟨gb112, 1, none⟩) (Kd.R_far (p := ⟨gb112, 0, none⟩) (Kd.R_types HO_3.out BK112.out (by decide)) (fun _ hk => hk.2) (.bool ((rd_T64 l0 x8_1).f0))) (fun _ hk => hk.2) (.string ((rd_T64 l0 x8_1).f1))) (fun _ hk => trivial))); (case aS => exact (below_size (by repeat (first | (with_reducible first | exact HB.out | apply below_alloc | apply pw_below_drewN | apply below_drew1 | refine below_set ?_ GE112.out) | exact HB.out)))); (case aL => have := LMc5.out; omega); intro v114 w8 ho hb hg hat; rw [← Ny113.out] at ho; have n0_ := Aside0.mk (blk_grown (g := gb112) (o := .cells #[.bool ((rd_T64 l0 x8_1).f0), .string ((rd_T64 l0 x8_1).f1)] 64 (0, 0)) (by (with_reducible repeat (first | refine blk_drewN ?_ _ | refine blk_drew ?_ | refine blk_alloc ?_ _)); refine blk_put (cs := #[.bool ((rd_T64 l0 x8_1).f0), .string (⟨#[]⟩ : ByteArray)]) ?_ 1 _ rfl; (with_reducible repeat (first | refine blk_drewN ?_ _ | refine blk_drew ?_ | refine blk_alloc ?_ _)); refine blk_put (cs := #[.bool false, .string (⟨#[]⟩ : ByteArray)]) ?_ 0 _ rfl; (with_reducible repeat (first | refine blk_drewN ?_ _ | refine blk_drew ?_ | refine blk_alloc ?_ _)); exact BK112.out) hg (Kd.R_ne HO_3.out BK112.out (by decide))); have n1_ := Aside0.mk (hb); have n2_ := Aside0.mk (ho); clear BK112; clear HB; clear HO_3; have BK112 := n0_; have HB := n1_; have HO115 := n2_; clear n0_ n1_ n2_; clear ho hb hg hat))
              go_roundg k1
              case measure => have := HK1.out; omega
              case rel => exact ⟨(y113), (wrap64 (x8_1 + 1)), (by first | rfl | (simp; done) | (simp [*]; done) | (simp [bne_nil_]; done)), H', ⟨by have := HK1.out; omega⟩, ⟨by (with_reducible repeat (first | apply Kd.R_alloc | apply Kd.R_drewN | apply Kd.R_drew)); exact HO115.out⟩, ⟨by repeat (first | (with_reducible first | exact HB.out | apply below_alloc | apply pw_below_drewN | apply below_drew1 | refine below_set ?_ GE112.out) | exact HB.out)⟩⟩
            · rw [if_neg c5] at H
              exact absurd H (by simp)
          · rw [if_neg c4] at H
            exact absurd H (by simp)
        · rw [if_neg c3] at H
          exact absurd H (by simp)
      · rw [if_neg c2] at H
        have c2b0 : decide (x8_1 < (l0.length : Int)) = false := decide_eq_false c2
        clear c2
        obtain rfl := Option.some.inj H
        go_wp2
        go_ret
        exact ⟨_, by first | rfl | (simp [errW_none, errW_some] <;> rfl) | (simp [*, errW_none, errW_some] <;> rfl) | (simp [bne_nil_]; done), by (with_reducible repeat (first | apply Kd.R_alloc | apply Kd.R_drewN | apply Kd.R_drew)); exact HO_3.out, by repeat (first | (with_reducible first | exact HB.out | apply below_alloc | apply pw_below_drewN | apply below_drew1) | exact HB.out)⟩

/-! ### impl_like: function 44 -/
def impl_like.f (k : Nat) (a0_0 : Bool) (l0_1 : List (S64)) (a0_2 : ByteArray) (a0_3 : ByteArray) : Option (Bool × (List (S109)) × ByteArray × ByteArray) := (impl_bigs.f k l0_1).bind fun t118 => (some (a0_0, t118, a0_2, a0_3))
theorem impl_like.mono : ∀ a0 a1 a2 a3 k, LeO (impl_like.f k a0 a1 a2 a3) (impl_like.f (k + 1) a0 a1 a2 a3) := by
  intro a0 a1 a2 a3 k
  unfold impl_like.f
  repeat' first
      | (with_reducible exact impl_bigs.mono _ _)
      | (with_reducible exact LeO.refl _)
      | (with_reducible exact LeO.none _)
      | (with_reducible refine LeO.ite ?_ ?_)
      | (with_reducible refine LeO.bind ?_ (fun _ => ?_))
      | exact impl_bigs.mono _ _
      | exact LeO.none _
      | refine LeO.ite ?_ ?_
      | refine LeO.bind ?_ (fun _ => ?_)
def impl_like.T1 : Bool × List (List Nat × List Nat) := (true, [([], []), ([0], [0]), ([], []), ([2], [2]), ([3], [3]), ([], []), ([5], [5]), ([], []), ([7], [7]), ([1, 4, 6, 8], [1, 4, 6, 8]), ([9, 4, 0, 1, 2, 3, 4, 5, 6, 7, 8, 9], [9])])
def impl_like.B1 : List Nat := [0, 1, 0, 4, 12, 0, 32, 0, 128, 511, 1023]
theorem impl_like.tab1 : rtab .any (opsOf Tryz.f44 1) = impl_like.T1 := by kernel_rfl
theorem impl_like.bits1 : waitsOk impl_like.T1.2 impl_like.B1 = true := by kernel_rfl
set_option maxHeartbeats 8000000 in
set_option maxRecDepth 100000 in
theorem impl_like.calls (k : Nat) (a0_0 : Bool) (A0_1 : Option Addr) (c0_1 : Nat) (l0_1 : List (S64)) (a0_2 : ByteArray) (a0_3 : ByteArray) (r1 : Bool) (r2 : List (S109)) (r3 : ByteArray) (r4 : ByteArray) (w : World) (hr0_1 : Kd.C k64 w A0_1 l0_1.length l0_1) (hc0_1 : l0_1.length ≤ c0_1) (h : impl_like.f k a0_0 l0_1 a0_2 a0_3 = some (r1, r2, r3, r4)) :
    Calls Tryz.prog 44 #[.agg #[.bool a0_0, .slice A0_1 l0_1.length c0_1, .string a0_2, .string a0_3]] w fun e w' => ∃ v1_ : Value, e = .returned (.agg #[.bool r1, v1_, .string r3, .string r4]) ∧ Kd.R k109 109 w' w.heap.size (fun _ => True) v1_ r2 ∧ Below w.heap.size w w' := by
  have hu37 := Tryz.underlying37
  have hu70 := Tryz.underlying70
  have HR0_1 := Aside0.mk hr0_1
  have HC0_1 := Aside0.mk hc0_1
  clear hr0_1 hc0_1
  have HB := Aside0.mk (Below.refl w.heap.size w)
  have H : ((impl_bigs.f k l0_1).bind fun t118 => (some (a0_0, t118, a0_2, a0_3))) = some (r1, r2, r3, r4) := h
  clear h
  replace H := Option.bind_eq_some_iff.mp H
  obtain ⟨t118, A20, H⟩ := H
  replace H : (some (a0_0, t118, a0_2, a0_3)) = some (r1, r2, r3, r4) := H
  have A2 := Aside0.mk A20
  clear A20
  simp only [Option.some.injEq, Prod.mk.injEq] at H
  obtain ⟨rfl, rfl, rfl, rfl⟩ := H
  go_enter Tryz.func44, Tryz.ntmps44
  try go_wp2_with (first | ((with_reducible refine gate_dst (N := 1) rfl ?_); refine box_event ?hg (N := 1) ?hd (cs := #[.bool a0_0, .slice A0_1 l0_1.length c0_1, .string a0_2, .string a0_3]) (t := 37) ?hr ?_; (case hd => rfl); (case hg => rfl); (case hr => first | (go_simp; done) | (go_simp; rfl)); intro gb116 hg w3 hbox hb; have n0_ := Aside0.mk (below_step (by repeat (first | (with_reducible first | exact HB.out | apply below_alloc | apply pw_below_drewN | apply below_drew1) | exact HB.out)) hb); have n1_ := Aside0.mk (hbox); have n2_ := Aside0.mk ((by rw [hg]; exact (below_size (by repeat (first | (with_reducible first | exact HB.out | apply below_alloc | apply pw_below_drewN | apply below_drew1) | exact HB.out))) : w.heap.size ≤ gb116)); have n3_ := Aside0.mk ((by rw [hg]; exact (below_size (by repeat (first | (with_reducible first | exact HB.out | apply below_alloc | apply pw_below_drewN | apply below_drew1) | exact HB.out))) : w.heap.size ≤ gb116)); clear HB; have HB := n0_; have BK116 := n1_; have GW116 := n2_; have GE116 := n3_; clear n0_ n1_ n2_ n3_; clear hb hbox hg) | ((with_reducible refine gate_dst (N := 2) rfl ?_); refine box_event ?hg (N := 2) ?hd (cs := #[.bool false, .slice none 0 0, .string (⟨#[]⟩ : ByteArray), .string (⟨#[]⟩ : ByteArray)]) (t := 70) ?hr ?_; (case hd => rfl); (case hg => rfl); (case hr => first | (go_simp; done) | (go_simp; rfl)); intro gb117 hg w4 hbox hb; have n0_ := Aside0.mk (blk_below (g := gb116) (o := .cells #[.bool a0_0, .slice A0_1 l0_1.length c0_1, .string a0_2, .string a0_3] 37 (0, 0)) (by (with_reducible repeat (first | refine blk_drewN ?_ _ | refine blk_drew ?_ | refine blk_alloc ?_ _)); exact BK116.out) hb); have n1_ := Aside0.mk (below_step (by repeat (first | (with_reducible first | exact HB.out | apply below_alloc | apply pw_below_drewN | apply below_drew1 | refine below_set ?_ GE116.out) | exact HB.out)) hb); have n2_ := Aside0.mk (hbox); have n3_ := Aside0.mk ((by rw [hg]; exact (below_size (by repeat (first | (with_reducible first | exact HB.out | apply below_alloc | apply pw_below_drewN | apply below_drew1 | refine below_set ?_ GE116.out) | exact HB.out))) : w.heap.size ≤ gb117)); have n4_ := Aside0.mk ((by rw [hg]; exact (below_size (by repeat (first | (with_reducible first | exact HB.out | apply below_alloc | apply pw_below_drewN | apply below_drew1 | refine below_set ?_ GE116.out) | exact HB.out))) : w.heap.size ≤ gb117)); have n5_ := Aside0.mk ((by rw [hg]; exact Nat.ne_of_lt (blk_lt (g := gb116) (o := .cells #[.bool a0_0, .slice A0_1 l0_1.length c0_1, .string a0_2, .string a0_3] 37 (0, 0)) (by (with_reducible repeat (first | refine blk_drewN ?_ _ | refine blk_drew ?_ | refine blk_alloc ?_ _)); exact BK116.out)) : gb116 ≠ gb117)); have n6_ := Aside0.mk ((by rw [hg]; exact Nat.ne_of_gt (blk_lt (g := gb116) (o := .cells #[.bool a0_0, .slice A0_1 l0_1.length c0_1, .string a0_2, .string a0_3] 37 (0, 0)) (by (with_reducible repeat (first | refine blk_drewN ?_ _ | refine blk_drew ?_ | refine blk_alloc ?_ _)); exact BK116.out)) : gb117 ≠ gb116)); clear BK116; clear HB; have BK116 := n0_; have HB := n1_; have BK117 := n2_; have GW117 := n3_; have GE117 := n4_; have NB116_117 := n5_; have NB117_116 := n6_; clear n0_ n1_ n2_ n3_ n4_ n5_ n6_; clear hb hbox hg))
  have n0_ := Aside0.mk (blk_drew BK116.out)
  have n1_ := Aside0.mk (blk_drew BK117.out)
  have n2_ := Aside0.mk (below_drew1 HB.out)
  clear BK116
  clear BK117
  clear HB
  have BK116 := n0_
  have BK117 := n1_
  have HB := n2_
  clear n0_ n1_ n2_
  refine start_ (n := 11) (S := fun w' => w'.cell? ⟨gb116, 0, none⟩ = some (.bool a0_0) ∧ w'.cell? ⟨gb116, 1, none⟩ = some (.slice A0_1 l0_1.length c0_1) ∧ w'.cell? ⟨gb116, 2, none⟩ = some (.string a0_2) ∧ w'.cell? ⟨gb116, 3, none⟩ = some (.string a0_3)) (ds := []) #[false, false, false, false, false, false, false, false, false, false, false] (by kernel_rfl) rfl rfl ⟨(blk_cell BK116.out 0).trans rfl, (blk_cell BK116.out 1).trans rfl, (blk_cell BK116.out 2).trans rfl, (blk_cell BK116.out 3).trans rfl⟩ (fun hHeld => ?_); refine with_tabW impl_like.tab1 impl_like.bits1 (fun HT_ HW_ => ?_)
  generalize w4.drew = w5 at BK116 BK117 HB hHeld ⊢
  refine pure_ (i := 0) (N := some 3) (v := ?_) (a' := ?_) #[true, false, false, false, false, false, false, false, false, false, false] rfl rfl (any_of HT_.out (by kernel_rfl)) (fun _ _ _ h => h) (Or.inl ⟨by rfl, ?_⟩) ?_ ?_
  rotate_left
  · intro w'
    go_simp
    with_reducible rfl
  rotate_left
  · simp only [Act.put, List.setIfInBounds_toArray, List.set_cons_zero, List.set_cons_succ, i64_w, i32_w]
    rfl
  refine pure_ (i := 2) (N := some 5) (v := ?_) (a' := ?_) #[true, false, true, false, false, false, false, false, false, false, false] rfl rfl (any_of HT_.out (by kernel_rfl)) (fun _ _ _ h => h) (Or.inl ⟨by rfl, ?_⟩) ?_ ?_
  rotate_left
  · intro w'
    go_simp
    with_reducible rfl
  rotate_left
  · simp only [Act.put, List.setIfInBounds_toArray, List.set_cons_zero, List.set_cons_succ, i64_w, i32_w]
    rfl
  refine pure_ (i := 5) (N := some 8) (v := ?_) (a' := ?_) #[true, false, true, false, false, true, false, false, false, false, false] rfl rfl (any_of HT_.out (by kernel_rfl)) (fun _ _ _ h => h) (Or.inl ⟨by rfl, ?_⟩) ?_ ?_
  rotate_left
  · intro w'
    go_simp
    with_reducible rfl
  rotate_left
  · simp only [Act.put, List.setIfInBounds_toArray, List.set_cons_zero, List.set_cons_succ, i64_w, i32_w]
    rfl
  refine pure_ (i := 7) (N := some 10) (v := ?_) (a' := ?_) #[true, false, true, false, false, true, false, true, false, false, false] rfl rfl (any_of HT_.out (by kernel_rfl)) (fun _ _ _ h => h) (Or.inl ⟨by rfl, ?_⟩) ?_ ?_
  rotate_left
  · intro w'
    go_simp
    with_reducible rfl
  rotate_left
  · simp only [Act.put, List.setIfInBounds_toArray, List.set_cons_zero, List.set_cons_succ, i64_w, i32_w]
    rfl
  refine take_ (i := 1) (N := some 4) (v := ?_) (a' := ?_) #[true, true, true, false, false, true, false, true, false, false, false] rfl rfl (take_ofW HT_.out HW_.out (by kernel_rfl)) (fun _ _ _ h => h) (Or.inl ⟨by rfl, ?_⟩) hHeld ?_ ?_
  rotate_left
  · rintro w' ⟨s0, s1, s2, s3⟩
    go_simp
    with_reducible rfl
  rotate_left
  · simp only [Act.put, List.setIfInBounds_toArray, List.set_cons_zero, List.set_cons_succ, i64_w, i32_w]
    rfl
  refine take_ (i := 3) (N := some 6) (v := ?_) (a' := ?_) #[true, true, true, true, false, true, false, true, false, false, false] rfl rfl (take_ofW HT_.out HW_.out (by kernel_rfl)) (fun _ _ _ h => h) (Or.inl ⟨by rfl, ?_⟩) hHeld ?_ ?_
  rotate_left
  · rintro w' ⟨s0, s1, s2, s3⟩
    go_simp
    with_reducible rfl
  rotate_left
  · simp only [Act.put, List.setIfInBounds_toArray, List.set_cons_zero, List.set_cons_succ, i64_w, i32_w]
    rfl
  refine take_ (i := 6) (N := some 9) (v := ?_) (a' := ?_) #[true, true, true, true, false, true, true, true, false, false, false] rfl rfl (take_ofW HT_.out HW_.out (by kernel_rfl)) (fun _ _ _ h => h) (Or.inl ⟨by rfl, ?_⟩) hHeld ?_ ?_
  rotate_left
  · rintro w' ⟨s0, s1, s2, s3⟩
    go_simp
    with_reducible rfl
  rotate_left
  · simp only [Act.put, List.setIfInBounds_toArray, List.set_cons_zero, List.set_cons_succ, i64_w, i32_w]
    rfl
  refine take_ (i := 8) (N := some 11) (v := ?_) (a' := ?_) #[true, true, true, true, false, true, true, true, true, false, false] rfl rfl (take_ofW HT_.out HW_.out (by kernel_rfl)) (fun _ _ _ h => h) (Or.inl ⟨by rfl, ?_⟩) hHeld ?_ ?_
  rotate_left
  · rintro w' ⟨s0, s1, s2, s3⟩
    go_simp
    with_reducible rfl
  rotate_left
  · simp only [Act.put, List.setIfInBounds_toArray, List.set_cons_zero, List.set_cons_succ, i64_w, i32_w]
    rfl
  refine one_ (i := 4) (N := some 7) #[true, true, true, true, true, true, true, true, true, false, false] rfl rfl (one_of HT_.out (by kernel_rfl)) (by decide) (fun K hK => ?_)
  refine goes_ Tryz.func63 (by kernel_rfl) rfl #[.slice A0_1 l0_1.length c0_1] (by rfl) rfl rfl (by (try simp only [List.map_toArray, List.map_cons, List.map_nil]); first | done | rfl | (simp only [List.length_drop, List.length_take]; rfl)) ?_
  with_reducible refine (impl_bigs.calls k _ _ l0_1 t118 _ ?side1 ?side2 A2.out).mono ?_
  (case side1 => repeat (first | exact (Kd.C_below HR0_1.out HB.out) | (with_reducible refine Kd.C_alloc ?_ _) | (with_reducible refine Kd.C_drewN ?_ _) | (with_reducible refine Kd.C_drew ?_)))
  (case side2 => exact HC0_1.out)
  rintro e w6 ⟨v119, rfl, ho0, hb⟩
  refine ⟨_, rfl, ?_⟩
  have n0_ := Aside0.mk (Kd.R_lower ho0 (below_size (by repeat (first | (with_reducible first | exact HB.out | apply below_alloc | apply pw_below_drewN | apply below_drew1 | refine below_set ?_ GE116.out | refine below_set ?_ GE117.out) | exact HB.out))))
  have n1_ := Aside0.mk (blk_below (g := gb116) (o := .cells #[.bool a0_0, .slice A0_1 l0_1.length c0_1, .string a0_2, .string a0_3] 37 (0, 0)) (by (with_reducible repeat (first | refine blk_drewN ?_ _ | refine blk_drew ?_ | refine blk_alloc ?_ _)); exact BK116.out) hb)
  have n2_ := Aside0.mk (blk_below (g := gb117) (o := .cells #[.bool false, .slice none 0 0, .string (⟨#[]⟩ : ByteArray), .string (⟨#[]⟩ : ByteArray)] 70 (0, 0)) (by (with_reducible repeat (first | refine blk_drewN ?_ _ | refine blk_drew ?_ | refine blk_alloc ?_ _)); exact BK117.out) hb)
  have n3_ := Aside0.mk (below_step (by repeat (first | (with_reducible first | exact HB.out | apply below_alloc | apply pw_below_drewN | apply below_drew1 | refine below_set ?_ GE116.out | refine below_set ?_ GE117.out) | exact HB.out)) hb)
  clear BK116
  clear BK117
  clear HB
  have HO120 := n0_
  have BK116 := n1_
  have BK117 := n2_
  have HB := n3_
  clear n0_ n1_ n2_ n3_
  (try clear hb)
  (try clear hb2)
  (try clear hk)
  (try clear hi)
  (try clear ho0)
  obtain ⟨Ao7, co7, eo7⟩ := Kd.R_slice HO120.out
  (first | subst eo7 | (injection eo7 with f1_ f2_ f3_; have f4_ := f1_.symm; have f5_ := f3_.symm; clear f1_ f2_ f3_; subst f4_; subst f5_))
  refine hK.out _ _ ⟨(blk_cell BK116.out 0).trans rfl, (blk_cell BK116.out 1).trans rfl, (blk_cell BK116.out 2).trans rfl, (blk_cell BK116.out 3).trans rfl⟩ (fun hHeld => ?_)
  clear hK K
  refine norm_ (a' := ?_) ?_ ?_
  rotate_left
  · show Act.put _ (some 7) _ = _
    simp only [Act.put, List.setIfInBounds_toArray, List.set_cons_zero, List.set_cons_succ, i64_w, i32_w]
    rfl
  refine pure_ (i := 9) (N := some 12) (v := ?_) (a' := ?_) #[true, true, true, true, true, true, true, true, true, true, false] rfl rfl (any_of HT_.out (by kernel_rfl)) (fun _ _ _ h => h) (Or.inl ⟨by rfl, ?_⟩) ?_ ?_
  rotate_left
  · intro w'
    go_simp
    with_reducible rfl
  rotate_left
  · simp only [Act.put, List.setIfInBounds_toArray, List.set_cons_zero, List.set_cons_succ, i64_w, i32_w]
    rfl
  refine one_ (i := 10) (N := none) #[true, true, true, true, true, true, true, true, true, true, true] rfl rfl (one_of HT_.out (by kernel_rfl)) (by decide) (fun K hK => ?_)
  have hs8 : w6.cell? ⟨gb117, 0, none⟩ = some (.bool false) := (blk_cell BK117.out 0).trans rfl
  have hfs8 := blk_frozen BK117.out 0
  have hns8_0 := NB116_117.out
  have hms8_0 := NB117_116.out
  have hs9 : w6.cell? ⟨gb117, 1, none⟩ = some (.slice none 0 0) := (blk_cell BK117.out 1).trans rfl
  have hfs9 := blk_frozen BK117.out 1
  have hns9_0 := NB116_117.out
  have hms9_0 := NB117_116.out
  have hs10 : w6.cell? ⟨gb117, 2, none⟩ = some (.string (⟨#[]⟩ : ByteArray)) := (blk_cell BK117.out 2).trans rfl
  have hfs10 := blk_frozen BK117.out 2
  have hns10_0 := NB116_117.out
  have hms10_0 := NB117_116.out
  have hs11 : w6.cell? ⟨gb117, 3, none⟩ = some (.string (⟨#[]⟩ : ByteArray)) := (blk_cell BK117.out 3).trans rfl
  have hfs11 := blk_frozen BK117.out 3
  have hns11_0 := NB116_117.out
  have hms11_0 := NB117_116.out
  refine skip_ (w1 := ?_) (by rfl) rfl ?_ ?_
  rotate_left
  · go_simp
    rfl
  refine hK.out _ _ ⟨((cell_far (p := ⟨gb117, _, none⟩) NB116_117.out _).trans (((cell_far (p := ⟨gb117, _, none⟩) NB116_117.out _).trans (((cell_far (p := ⟨gb117, _, none⟩) NB116_117.out _).trans (((cell_far (p := ⟨gb117, _, none⟩) NB116_117.out _).trans (hHeld.1)))))))), ((cell_far (p := ⟨gb117, _, none⟩) NB116_117.out _).trans (((cell_far (p := ⟨gb117, _, none⟩) NB116_117.out _).trans (((cell_far (p := ⟨gb117, _, none⟩) NB116_117.out _).trans (((cell_far (p := ⟨gb117, _, none⟩) NB116_117.out _).trans (hHeld.2.1)))))))), ((cell_far (p := ⟨gb117, _, none⟩) NB116_117.out _).trans (((cell_far (p := ⟨gb117, _, none⟩) NB116_117.out _).trans (((cell_far (p := ⟨gb117, _, none⟩) NB116_117.out _).trans (((cell_far (p := ⟨gb117, _, none⟩) NB116_117.out _).trans (hHeld.2.2.1)))))))), ((cell_far (p := ⟨gb117, _, none⟩) NB116_117.out _).trans (((cell_far (p := ⟨gb117, _, none⟩) NB116_117.out _).trans (((cell_far (p := ⟨gb117, _, none⟩) NB116_117.out _).trans (((cell_far (p := ⟨gb117, _, none⟩) NB116_117.out _).trans (hHeld.2.2.2))))))))⟩ (fun hHeld => ?_)
  clear hK K
  refine done_ (done_of HT_.out (by kernel_rfl)) ?_
  try go_wp2
  refine bodyPost_ret (results_cell_row rfl _ _ gb117 70 #[.bool a0_0, .slice Ao7 t118.length co7, .string a0_2, .string a0_3] (0, 0) _ rfl (by (with_reducible repeat (first | refine blk_drewN ?_ _ | refine blk_drew ?_ | refine blk_alloc ?_ _)); refine blk_put (cs := #[.bool a0_0, .slice Ao7 t118.length co7, .string a0_2, .string (⟨#[]⟩ : ByteArray)]) ?_ 3 _ rfl; (with_reducible repeat (first | refine blk_drewN ?_ _ | refine blk_drew ?_ | refine blk_alloc ?_ _)); refine blk_put (cs := #[.bool a0_0, .slice Ao7 t118.length co7, .string (⟨#[]⟩ : ByteArray), .string (⟨#[]⟩ : ByteArray)]) ?_ 2 _ rfl; (with_reducible repeat (first | refine blk_drewN ?_ _ | refine blk_drew ?_ | refine blk_alloc ?_ _)); refine blk_put (cs := #[.bool a0_0, .slice none 0 0, .string (⟨#[]⟩ : ByteArray), .string (⟨#[]⟩ : ByteArray)]) ?_ 1 _ rfl; (with_reducible repeat (first | refine blk_drewN ?_ _ | refine blk_drew ?_ | refine blk_alloc ?_ _)); refine blk_put (cs := #[.bool false, .slice none 0 0, .string (⟨#[]⟩ : ByteArray), .string (⟨#[]⟩ : ByteArray)]) ?_ 0 _ rfl; (with_reducible repeat (first | refine blk_drewN ?_ _ | refine blk_drew ?_ | refine blk_alloc ?_ _)); exact BK117.out) Tryz.underlying70 rfl (by kernel_rfl)) rfl ?_
  exact ⟨_, by first | rfl | (simp [errW_none, errW_some] <;> rfl) | (simp [*, errW_none, errW_some] <;> rfl) | (simp [bne_nil_]; done), by (with_reducible repeat (first | apply Kd.R_alloc | apply Kd.R_drewN | apply Kd.R_drew)); exact Kd.R_mono (Kd.R_far (p := ⟨gb117, 3, none⟩) (Kd.R_far (p := ⟨gb117, 2, none⟩) (Kd.R_far (p := ⟨gb117, 1, none⟩) (Kd.R_far (p := ⟨gb117, 0, none⟩) (Kd.R_types HO120.out BK117.out (by decide)) (fun _ hk => hk.2) (.bool a0_0)) (fun _ hk => hk.2) (.slice Ao7 t118.length co7)) (fun _ hk => hk.2) (.string a0_2)) (fun _ hk => hk.2) (.string a0_3)) (fun _ hk => trivial), by repeat (first | (with_reducible first | exact HB.out | apply below_alloc | apply pw_below_drewN | apply below_drew1 | refine below_set ?_ GE116.out | refine below_set ?_ GE117.out) | exact HB.out)⟩

/-! ### laws_short: function 7 -/
def laws_short.l0 : Nat → List ByteArray → List ByteArray → Int → Int → Option (Bool)
  | 0, _, _, _, _ => none
  | k + 1, x0, x5, x6, x7 => if x7 < x6 then (if 0 ≤ x7 then (if x7 < (x5.length : Int) then (if ((rdOf ByteArray.empty x5 x7).size : Int) > 1500 then (some false) else (laws_short.l0 k x0 x5 x6 (wrap64 (x7 + 1)))) else (none)) else (none)) else (some (decide ((x0.length : Int) ≤ 150)))
def laws_short.f (k : Nat) (l0 : List ByteArray) : Option (Bool) := laws_short.l0 k l0 l0 (l0.length : Int) 0
theorem laws_short.mono_l : ∀ k, (∀ y0 y1 y2 y3, LeO (laws_short.l0 k y0 y1 y2 y3) (laws_short.l0 (k + 1) y0 y1 y2 y3))
  | 0 => fun _ _ _ _ r h => by simp [laws_short.l0] at h
  | k + 1 => by
    have ih0 := laws_short.mono_l k
    · intro y0 y1 y2 y3
      unfold laws_short.l0
      repeat' first
      | (with_reducible exact ih0 _ _ _ _)
      | (with_reducible exact LeO.refl _)
      | (with_reducible exact LeO.none _)
      | (with_reducible refine LeO.ite ?_ ?_)
      | (with_reducible refine LeO.bind ?_ (fun _ => ?_))
      | exact ih0 _ _ _ _
      | exact LeO.none _
      | refine LeO.ite ?_ ?_
      | refine LeO.bind ?_ (fun _ => ?_)
theorem laws_short.mono : ∀ a0 k, LeO (laws_short.f k a0) (laws_short.f (k + 1) a0) := by
  intro a0 k
  have ih0 := laws_short.mono_l k
  unfold laws_short.f
  repeat' first
      | (with_reducible exact ih0 _ _ _ _)
      | (with_reducible exact LeO.refl _)
      | (with_reducible exact LeO.none _)
      | (with_reducible refine LeO.ite ?_ ?_)
      | (with_reducible refine LeO.bind ?_ (fun _ => ?_))
      | exact ih0 _ _ _ _
      | exact LeO.none _
      | refine LeO.ite ?_ ?_
      | refine LeO.bind ?_ (fun _ => ?_)
set_option maxHeartbeats 8000000 in
set_option maxRecDepth 100000 in
theorem laws_short.calls (k : Nat) (A0 : Option Addr) (c0 : Nat) (l0 : List ByteArray) (r : Bool) (w : World) (hr0 : Kd.C Kd.string w A0 l0.length l0) (hc0 : l0.length ≤ c0) (h : laws_short.f k l0 = some r) :
    Calls Tryz.prog 7 #[.slice A0 l0.length c0] w fun e w' => e = .returned (.bool r) ∧ Drawn0 w w' := by
  have HR0 := Aside0.mk hr0
  have HC0 := Aside0.mk hc0
  clear hr0 hc0
  have H : (laws_short.l0 k l0 l0 (l0.length : Int) 0) = some r := h
  clear h
  have H' := Aside0.mk H
  clear H
  go_enter Tryz.func7, Tryz.ntmps7
  go_wp2
  go_loopg [7] k (fun kq v7 w' => ∃ (x7_1 : Int), v7 = .int .i64 x7_1 ∧ Aside0 (laws_short.l0 kq l0 l0 (l0.length : Int) x7_1 = some r) ∧ Aside0 (kq ≤ k) ∧ Drawn0 w w')
  case atStart => exact ⟨(0), (by first | rfl | (simp; done) | (simp [*]; done) | (simp [bne_nil_]; done)), H', ⟨Nat.le_refl _⟩, by repeat (first | exact Drawn0.refl _ | apply Drawn0.step)⟩
  case round =>
    clear H'
    obtain ⟨x7_1, rfl, HA, HK1, ⟨m1, rfl⟩⟩ := hrel
    cases gk with
    | zero => exact absurd HA.out (by simp [laws_short.l0])
    | succ k1 =>
      have H := HA.out
      clear HA
      simp only [laws_short.l0] at H
      by_cases c2 : x7_1 < (l0.length : Int)
      · rw [if_pos c2] at H
        have c2b0 : decide (x7_1 < (l0.length : Int)) = true := decide_eq_true c2
        clear c2
        by_cases c3 : 0 ≤ x7_1
        · rw [if_pos c3] at H
          have c3b0 : decide (0 ≤ x7_1) = true := decide_eq_true c3
          clear c3
          by_cases c4 : x7_1 < (l0.length : Int)
          · rw [if_pos c4] at H
            have c4b0 : decide (x7_1 < (l0.length : Int)) = true := decide_eq_true c4
            clear c4
            by_cases c5 : ((rdOf ByteArray.empty l0 x7_1).size : Int) > 1500
            · rw [if_pos c5] at H
              have c5b0 : decide (1500 < ((rdOf ByteArray.empty l0 x7_1).size : Int)) = true := decide_eq_true c5
              have c5b1 : decide (1500 < (rdOf ByteArray.empty l0 x7_1).size) = true := decide_eq_true (by omega)
              clear c5
              obtain rfl := Option.some.inj H
              have p121 : 0 ≤ (x7_1 : Int) := of_decide_eq_true (by first | (with_reducible assumption) | assumption)
              have q121 : x7_1 < (l0.length : Int) := of_decide_eq_true (by first | (with_reducible assumption) | assumption)
              obtain ⟨ad121, e121, hx121_0⟩ := Kd.at_string HR0.out x7_1 p121 q121
              cases e121
              replace p121 := eq_true p121
              replace q121 := eq_true q121
              go_wp2
              go_ret
              exact ⟨by first | rfl | (simp; done) | (simp [*]; done) | (simp [bne_nil_]; done), by repeat (first | exact Drawn0.refl _ | apply Drawn0.step)⟩
            · rw [if_neg c5] at H
              have c5b0 : decide (1500 < ((rdOf ByteArray.empty l0 x7_1).size : Int)) = false := decide_eq_false c5
              have c5b1 : decide (1500 < (rdOf ByteArray.empty l0 x7_1).size) = false := decide_eq_false (by omega)
              clear c5
              have H' := Aside0.mk H
              clear H
              have p121 : 0 ≤ (x7_1 : Int) := of_decide_eq_true (by first | (with_reducible assumption) | assumption)
              have q121 : x7_1 < (l0.length : Int) := of_decide_eq_true (by first | (with_reducible assumption) | assumption)
              obtain ⟨ad121, e121, hx121_0⟩ := Kd.at_string HR0.out x7_1 p121 q121
              cases e121
              replace p121 := eq_true p121
              replace q121 := eq_true q121
              go_wp2
              go_roundg k1
              case measure => have := HK1.out; omega
              case rel => exact ⟨(wrap64 (x7_1 + 1)), (by first | rfl | (simp; done) | (simp [*]; done) | (simp [bne_nil_]; done)), H', ⟨by have := HK1.out; omega⟩, by repeat (first | exact Drawn0.refl _ | apply Drawn0.step)⟩
          · rw [if_neg c4] at H
            exact absurd H (by simp)
        · rw [if_neg c3] at H
          exact absurd H (by simp)
      · rw [if_neg c2] at H
        have c2b0 : decide (x7_1 < (l0.length : Int)) = false := decide_eq_false c2
        clear c2
        obtain rfl := Option.some.inj H
        go_wp2
        go_ret
        exact ⟨by first | rfl | (simp; done) | (simp [*]; done) | (simp [bne_nil_]; done), by repeat (first | exact Drawn0.refl _ | apply Drawn0.step)⟩

/-! ### stringslite_HasPrefix: function 98 -/
def stringslite_HasPrefix.f (a0 : ByteArray) (a1 : ByteArray) : Option (Bool) := if (a0.size : Int) ≥ (a1.size : Int) then (if 0 ≤ (a1.size : Int) then (if (a1.size : Int) ≤ (a0.size : Int) then (some ((a0.extract 0 a1.size).toList == a1.toList)) else (none)) else (none)) else (some false)
set_option maxHeartbeats 8000000 in
set_option maxRecDepth 100000 in
theorem stringslite_HasPrefix.calls (a0 : ByteArray) (a1 : ByteArray) (r : Bool) (w : World) (h : stringslite_HasPrefix.f a0 a1 = some r) :
    Calls Tryz.prog 98 #[.string a0, .string a1] w fun e w' => e = .returned (.bool r) ∧ Drawn0 w w' := by
  have H : (if (a0.size : Int) ≥ (a1.size : Int) then (if 0 ≤ (a1.size : Int) then (if (a1.size : Int) ≤ (a0.size : Int) then (some ((a0.extract 0 a1.size).toList == a1.toList)) else (none)) else (none)) else (some false)) = some r := h
  clear h
  by_cases c3 : (a0.size : Int) ≥ (a1.size : Int)
  · rw [if_pos c3] at H
    have c3b0 : decide ((a1.size : Int) ≤ (a0.size : Int)) = true := decide_eq_true c3
    have c3b1 : decide (a1.size ≤ a0.size) = true := decide_eq_true (Int.ofNat_le.mp c3)
    clear c3
    by_cases c4 : 0 ≤ (a1.size : Int)
    · rw [if_pos c4] at H
      have c4b0 := eq_true c4
      have c4b1 : decide (0 ≤ (a1.size : Int)) = true := decide_eq_true c4
      clear c4
      by_cases c5 : (a1.size : Int) ≤ (a0.size : Int)
      · rw [if_pos c5] at H
        have c5b0 := eq_true c5
        have c5b1 : decide ((a1.size : Int) ≤ (a0.size : Int)) = true := decide_eq_true c5
        clear c5
        obtain rfl := Option.some.inj H
        go_enter Tryz.func98, Tryz.ntmps98
        go_wp2
        go_ret
        exact ⟨by first | rfl | (simp; done) | (simp [*]; done) | (simp [bne_nil_]; done), by repeat (first | exact Drawn0.refl _ | apply Drawn0.step)⟩
      · rw [if_neg c5] at H
        exact absurd H (by simp)
    · rw [if_neg c4] at H
      exact absurd H (by simp)
  · rw [if_neg c3] at H
    have c3b0 : decide ((a1.size : Int) ≤ (a0.size : Int)) = false := decide_eq_false c3
    have c3b1 : decide (a1.size ≤ a0.size) = false := decide_eq_false (fun h => c3 (Int.ofNat_le.mpr h))
    clear c3
    obtain rfl := Option.some.inj H
    go_enter Tryz.func98, Tryz.ntmps98
    go_wp2
    go_ret
    exact ⟨by first | rfl | (simp; done) | (simp [*]; done) | (simp [bne_nil_]; done), by repeat (first | exact Drawn0.refl _ | apply Drawn0.step)⟩

/-! ### strings_HasPrefix: function 83 -/
def strings_HasPrefix.f (a0 : ByteArray) (a1 : ByteArray) : Option (Bool) := (stringslite_HasPrefix.f a0 a1).bind fun t122 => (some t122)
set_option maxHeartbeats 8000000 in
set_option maxRecDepth 100000 in
theorem strings_HasPrefix.calls (a0 : ByteArray) (a1 : ByteArray) (r : Bool) (w : World) (h : strings_HasPrefix.f a0 a1 = some r) :
    Calls Tryz.prog 83 #[.string a0, .string a1] w fun e w' => e = .returned (.bool r) ∧ Drawn0 w w' := by
  have H : ((stringslite_HasPrefix.f a0 a1).bind fun t122 => (some t122)) = some r := h
  clear h
  replace H := Option.bind_eq_some_iff.mp H
  obtain ⟨t122, A30, H⟩ := H
  replace H : (some t122) = some r := H
  have A3 := Aside0.mk A30
  clear A30
  obtain rfl := Option.some.inj H
  go_enter Tryz.func83, Tryz.ntmps83
  go_wp2_with (first | ((with_reducible refine gate_callee (f := 98) rfl ?_); refine goesL_ (some 7) rfl rfl Tryz.func98 (by kernel_rfl) rfl #[.string a0, .string a1] rfl (by (try simp only [List.map_toArray, List.map_cons, List.map_nil]); first | done | rfl | (simp only [List.length_drop, List.length_take]; rfl)) ?_; (with_reducible refine (stringslite_HasPrefix.calls a0 a1 t122 _ A3.out).mono ?_); rintro e w' ⟨rfl, ⟨nd, rfl⟩⟩; refine ⟨_, rfl, ?_⟩))
  go_ret
  exact ⟨by first | rfl | (simp; done) | (simp [*]; done) | (simp [bne_nil_]; done), by repeat (first | exact Drawn0.refl _ | apply Drawn0.step)⟩

/-! ### stringslite_TrimPrefix: function 99 -/
def stringslite_TrimPrefix.f (a0 : ByteArray) (a1 : ByteArray) : Option (ByteArray) := (stringslite_HasPrefix.f a0 a1).bind fun t123 => (if t123 = true then (if 0 ≤ (a1.size : Int) then (if (a1.size : Int) ≤ (a0.size : Int) then (some (a0.extract a1.size a0.size)) else (none)) else (none)) else (some a0))
set_option maxHeartbeats 8000000 in
set_option maxRecDepth 100000 in
theorem stringslite_TrimPrefix.calls (a0 : ByteArray) (a1 : ByteArray) (r : ByteArray) (w : World) (h : stringslite_TrimPrefix.f a0 a1 = some r) :
    Calls Tryz.prog 99 #[.string a0, .string a1] w fun e w' => e = .returned (.string r) ∧ Drawn0 w w' := by
  have H : ((stringslite_HasPrefix.f a0 a1).bind fun t123 => (if t123 = true then (if 0 ≤ (a1.size : Int) then (if (a1.size : Int) ≤ (a0.size : Int) then (some (a0.extract a1.size a0.size)) else (none)) else (none)) else (some a0))) = some r := h
  clear h
  replace H := Option.bind_eq_some_iff.mp H
  obtain ⟨t123, A30, H⟩ := H
  replace H : (if t123 = true then (if 0 ≤ (a1.size : Int) then (if (a1.size : Int) ≤ (a0.size : Int) then (some (a0.extract a1.size a0.size)) else (none)) else (none)) else (some a0)) = some r := H
  have A3 := Aside0.mk A30
  clear A30
  by_cases c4 : t123 = true
  · subst c4
    have H1 : (if 0 ≤ (a1.size : Int) then (if (a1.size : Int) ≤ (a0.size : Int) then (some (a0.extract a1.size a0.size)) else (none)) else (none)) = some r := by rw [if_pos rfl] at H; exact H
    clear H
    have H := H1
    clear H1
    by_cases c5 : 0 ≤ (a1.size : Int)
    · rw [if_pos c5] at H
      have c5b0 := eq_true c5
      have c5b1 : decide (0 ≤ (a1.size : Int)) = true := decide_eq_true c5
      clear c5
      by_cases c6 : (a1.size : Int) ≤ (a0.size : Int)
      · rw [if_pos c6] at H
        have c6b0 := eq_true c6
        have c6b1 : decide ((a1.size : Int) ≤ (a0.size : Int)) = true := decide_eq_true c6
        clear c6
        obtain rfl := Option.some.inj H
        go_enter Tryz.func99, Tryz.ntmps99
        go_wp2_with (first | ((with_reducible refine gate_callee (f := 98) rfl ?_); refine goesL_ (some 7) rfl rfl Tryz.func98 (by kernel_rfl) rfl #[.string a0, .string a1] rfl (by (try simp only [List.map_toArray, List.map_cons, List.map_nil]); first | done | rfl | (simp only [List.length_drop, List.length_take]; rfl)) ?_; (with_reducible refine (stringslite_HasPrefix.calls a0 a1 true _ A3.out).mono ?_); rintro e w' ⟨rfl, ⟨nd, rfl⟩⟩; refine ⟨_, rfl, ?_⟩))
        go_ret
        exact ⟨by first | rfl | (simp; done) | (simp [*]; done) | (simp [bne_nil_]; done), by repeat (first | exact Drawn0.refl _ | apply Drawn0.step)⟩
      · rw [if_neg c6] at H
        exact absurd H (by simp)
    · rw [if_neg c5] at H
      exact absurd H (by simp)
  · replace c4 := Bool.eq_false_iff.mpr c4
    subst c4
    have H1 : (some a0) = some r := by rw [if_neg (show ¬ (false = true) by decide)] at H; exact H
    clear H
    have H := H1
    clear H1
    obtain rfl := Option.some.inj H
    go_enter Tryz.func99, Tryz.ntmps99
    go_wp2_with (first | ((with_reducible refine gate_callee (f := 98) rfl ?_); refine goesL_ (some 7) rfl rfl Tryz.func98 (by kernel_rfl) rfl #[.string a0, .string a1] rfl (by (try simp only [List.map_toArray, List.map_cons, List.map_nil]); first | done | rfl | (simp only [List.length_drop, List.length_take]; rfl)) ?_; (with_reducible refine (stringslite_HasPrefix.calls a0 a1 false _ A3.out).mono ?_); rintro e w' ⟨rfl, ⟨nd, rfl⟩⟩; refine ⟨_, rfl, ?_⟩))
    go_ret
    exact ⟨by first | rfl | (simp; done) | (simp [*]; done) | (simp [bne_nil_]; done), by repeat (first | exact Drawn0.refl _ | apply Drawn0.step)⟩

/-! ### strings_TrimPrefix: function 84 -/
def strings_TrimPrefix.f (a0 : ByteArray) (a1 : ByteArray) : Option (ByteArray) := (stringslite_TrimPrefix.f a0 a1).bind fun t124 => (some t124)
set_option maxHeartbeats 8000000 in
set_option maxRecDepth 100000 in
theorem strings_TrimPrefix.calls (a0 : ByteArray) (a1 : ByteArray) (r : ByteArray) (w : World) (h : strings_TrimPrefix.f a0 a1 = some r) :
    Calls Tryz.prog 84 #[.string a0, .string a1] w fun e w' => e = .returned (.string r) ∧ Drawn0 w w' := by
  have H : ((stringslite_TrimPrefix.f a0 a1).bind fun t124 => (some t124)) = some r := h
  clear h
  replace H := Option.bind_eq_some_iff.mp H
  obtain ⟨t124, A30, H⟩ := H
  replace H : (some t124) = some r := H
  have A3 := Aside0.mk A30
  clear A30
  obtain rfl := Option.some.inj H
  go_enter Tryz.func84, Tryz.ntmps84
  go_wp2_with (first | ((with_reducible refine gate_callee (f := 99) rfl ?_); refine goesL_ (some 7) rfl rfl Tryz.func99 (by kernel_rfl) rfl #[.string a0, .string a1] rfl (by (try simp only [List.map_toArray, List.map_cons, List.map_nil]); first | done | rfl | (simp only [List.length_drop, List.length_take]; rfl)) ?_; (with_reducible refine (stringslite_TrimPrefix.calls a0 a1 t124 _ A3.out).mono ?_); rintro e w' ⟨rfl, ⟨nd, rfl⟩⟩; refine ⟨_, rfl, ?_⟩))
  go_ret
  exact ⟨by first | rfl | (simp; done) | (simp [*]; done) | (simp [bne_nil_]; done), by repeat (first | exact Drawn0.refl _ | apply Drawn0.step)⟩

-- LEFT OUT: function 85

-- LEFT OUT: function 116

-- LEFT OUT: function 123

-- LEFT OUT: function 129

-- LEFT OUT: function 127

-- LEFT OUT: function 209

-- LEFT OUT: function 210

-- LEFT OUT: function 175

-- LEFT OUT: function 230

-- LEFT OUT: function 231

-- LEFT OUT: function 219

-- LEFT OUT: function 185

-- LEFT OUT: function 160

-- LEFT OUT: function 142

-- LEFT OUT: function 147

-- LEFT OUT: function 130

-- LEFT OUT: function 131

-- LEFT OUT: function 132

-- LEFT OUT: function 125

-- LEFT OUT: function 148

-- LEFT OUT: function 149

-- LEFT OUT: function 163

-- LEFT OUT: function 150

-- LEFT OUT: function 133

-- LEFT OUT: function 117

-- LEFT OUT: function 110

-- LEFT OUT: function 100

-- LEFT OUT: function 101

-- LEFT OUT: function 86

-- LEFT OUT: function 66

-- LEFT OUT: function 111

-- LEFT OUT: function 102

-- LEFT OUT: function 87

-- LEFT OUT: function 151

-- LEFT OUT: function 152

-- LEFT OUT: function 134

-- LEFT OUT: function 118

-- NOT PRINTED: function 135 (math_archLog2)

-- NOT PRINTED: function 164 (math_archFrexp)

-- NOT PRINTED: function 194 (math_Float64bits)

-- NOT PRINTED: function 195 (math_Float64frombits)

-- NOT PRINTED: function 225 (math_Abs)

-- NOT PRINTED: function 191 (math_IsInf)

-- NOT PRINTED: function 192 (math_IsNaN)

-- NOT PRINTED: function 193 (math_normalize)

-- NOT PRINTED: function 165 (math_frexp)

-- NOT PRINTED: function 153 (math_Frexp)

-- NOT PRINTED: function 166 (math_archLog)

-- NOT PRINTED: function 196 (math_NaN)

-- NOT PRINTED: function 197 (math_Inf)

-- NOT PRINTED: function 167 (math_log)

-- NOT PRINTED: function 154 (math_Log)

-- NOT PRINTED: function 136 (math_log2)

-- NOT PRINTED: function 119 (math_Log2)

-- LEFT OUT: function 137

-- LEFT OUT: function 138

-- LEFT OUT: function 120

-- LEFT OUT: function 121

-- LEFT OUT: function 139

-- LEFT OUT: function 122

-- LEFT OUT: function 156

-- LEFT OUT: function 211

-- LEFT OUT: function 176

-- LEFT OUT: function 157

-- LEFT OUT: function 212

-- LEFT OUT: function 177

-- LEFT OUT: function 213

-- LEFT OUT: function 178

-- LEFT OUT: function 214

-- LEFT OUT: function 229

-- LEFT OUT: function 215

-- LEFT OUT: function 179

-- LEFT OUT: function 216

-- LEFT OUT: function 180

-- LEFT OUT: function 217

-- LEFT OUT: function 181

-- LEFT OUT: function 158

-- LEFT OUT: function 93

-- LEFT OUT: function 234

-- LEFT OUT: function 235

-- LEFT OUT: function 224

-- LEFT OUT: function 232

-- LEFT OUT: function 221

-- LEFT OUT: function 226

-- LEFT OUT: function 200

-- LEFT OUT: function 218

-- LEFT OUT: function 206

-- LEFT OUT: function 182

-- LEFT OUT: function 183

-- LEFT OUT: function 184

-- LEFT OUT: function 159

-- LEFT OUT: function 141

-- LEFT OUT: function 233

-- LEFT OUT: function 223

-- LEFT OUT: function 188

-- LEFT OUT: function 207

-- LEFT OUT: function 173

-- LEFT OUT: function 189

-- LEFT OUT: function 190

-- LEFT OUT: function 162

-- LEFT OUT: function 144

-- LEFT OUT: function 220

-- LEFT OUT: function 186

-- LEFT OUT: function 228

-- LEFT OUT: function 208

-- LEFT OUT: function 174

-- LEFT OUT: function 222

-- LEFT OUT: function 187

-- LEFT OUT: function 161

-- LEFT OUT: function 143

-- LEFT OUT: function 168

-- LEFT OUT: function 198

-- LEFT OUT: function 199

-- LEFT OUT: function 169

-- LEFT OUT: function 170

-- LEFT OUT: function 201

-- LEFT OUT: function 202

-- LEFT OUT: function 171

-- LEFT OUT: function 203

-- LEFT OUT: function 204

-- LEFT OUT: function 71

-- LEFT OUT: function 114

-- LEFT OUT: function 107

-- LEFT OUT: function 239

-- LEFT OUT: function 236

-- LEFT OUT: function 242

-- LEFT OUT: function 240

-- LEFT OUT: function 243

-- LEFT OUT: function 244

-- LEFT OUT: function 245

-- LEFT OUT: function 248

-- LEFT OUT: function 246

-- LEFT OUT: function 249

-- LEFT OUT: function 247

-- LEFT OUT: function 238

-- LEFT OUT: function 250

-- LEFT OUT: function 241

-- LEFT OUT: function 237

-- LEFT OUT: function 227

-- LEFT OUT: function 205

-- LEFT OUT: function 172

-- LEFT OUT: function 155

-- LEFT OUT: function 140

-- LEFT OUT: function 124

-- LEFT OUT: function 126

-- LEFT OUT: function 112

-- LEFT OUT: function 103

-- LEFT OUT: function 88

-- LEFT OUT: function 89

-- LEFT OUT: function 67

-- LEFT OUT: function 48

-- LEFT OUT: function 23

-- LEFT OUT: function 104

-- LEFT OUT: function 90

-- LEFT OUT: function 68

-- LEFT OUT: function 70

-- LEFT OUT: function 105

-- LEFT OUT: function 94

-- LEFT OUT: function 72

-- LEFT OUT: function 50

-- LEFT OUT: function 95

-- LEFT OUT: function 92

-- LEFT OUT: function 91

-- LEFT OUT: function 69

-- LEFT OUT: function 49

-- LEFT OUT: function 24

-- GIVEN: function 11 (impl_SemverCompareText)

-- GIVEN: function 26 (spec_lower)

-- GIVEN: function 39 (spec_cut)

/-! ### spec_isPoint: function 40 -/
def spec_isPoint.f (a0 : Int) : Option (Bool) := some (a0 == 46)
set_option maxHeartbeats 8000000 in
set_option maxRecDepth 100000 in
theorem spec_isPoint.calls (a0 : Int) (r : Bool) (w : World) (h : spec_isPoint.f a0 = some r) :
    Calls Tryz.prog 40 #[.int .u8 a0] w fun e w' => e = .returned (.bool r) ∧ Drawn0 w w' := by
  have H : (some (a0 == 46)) = some r := h
  clear h
  obtain rfl := Option.some.inj H
  go_enter Tryz.func40, Tryz.ntmps40
  go_wp2
  go_ret
  exact ⟨by first | rfl | (simp; done) | (simp [*]; done) | (simp [bne_nil_]; done), by repeat (first | exact Drawn0.refl _ | apply Drawn0.step)⟩

/-! ### spec_indexOf: function 51 -/
def spec_indexOf.l0 : Nat → ByteArray → Int → Int → Option (Int)
  | 0, _, _, _ => none
  | k + 1, x0, x1, x5 => if x5 < (x0.size : Int) then (if 0 ≤ x5 then (if (bt x0 x5) = x1 then (some x5) else (spec_indexOf.l0 k x0 x1 (wrap64 (x5 + 1)))) else (none)) else (some (-1))
def spec_indexOf.f (k : Nat) (a0 : ByteArray) (a1 : Int) : Option (Int) := spec_indexOf.l0 k a0 a1 0
theorem spec_indexOf.mono_l : ∀ k, (∀ y0 y1 y2, LeO (spec_indexOf.l0 k y0 y1 y2) (spec_indexOf.l0 (k + 1) y0 y1 y2))
  | 0 => fun _ _ _ r h => by simp [spec_indexOf.l0] at h
  | k + 1 => by
    have ih0 := spec_indexOf.mono_l k
    · intro y0 y1 y2
      unfold spec_indexOf.l0
      repeat' first
      | (with_reducible exact ih0 _ _ _)
      | (with_reducible exact LeO.refl _)
      | (with_reducible exact LeO.none _)
      | (with_reducible refine LeO.ite ?_ ?_)
      | (with_reducible refine LeO.bind ?_ (fun _ => ?_))
      | exact ih0 _ _ _
      | exact LeO.none _
      | refine LeO.ite ?_ ?_
      | refine LeO.bind ?_ (fun _ => ?_)
theorem spec_indexOf.mono : ∀ a0 a1 k, LeO (spec_indexOf.f k a0 a1) (spec_indexOf.f (k + 1) a0 a1) := by
  intro a0 a1 k
  have ih0 := spec_indexOf.mono_l k
  unfold spec_indexOf.f
  repeat' first
      | (with_reducible exact ih0 _ _ _)
      | (with_reducible exact LeO.refl _)
      | (with_reducible exact LeO.none _)
      | (with_reducible refine LeO.ite ?_ ?_)
      | (with_reducible refine LeO.bind ?_ (fun _ => ?_))
      | exact ih0 _ _ _
      | exact LeO.none _
      | refine LeO.ite ?_ ?_
      | refine LeO.bind ?_ (fun _ => ?_)
set_option maxHeartbeats 8000000 in
set_option maxRecDepth 100000 in
theorem spec_indexOf.calls (k : Nat) (a0 : ByteArray) (a1 : Int) (r : Int) (w : World) (h : spec_indexOf.f k a0 a1 = some r) :
    Calls Tryz.prog 51 #[.string a0, .int .u8 a1] w fun e w' => e = .returned (.int .i64 r) ∧ Drawn0 w w' := by
  have H : (spec_indexOf.l0 k a0 a1 0) = some r := h
  clear h
  have H' := Aside0.mk H
  clear H
  go_enter Tryz.func51, Tryz.ntmps51
  go_wp2
  go_loopg [5] k (fun kq v5 w' => ∃ (x5_1 : Int), v5 = .int .i64 x5_1 ∧ Aside0 (spec_indexOf.l0 kq a0 a1 x5_1 = some r) ∧ Aside0 (kq ≤ k) ∧ Drawn0 w w')
  case atStart => exact ⟨(0), (by first | rfl | (simp; done) | (simp [*]; done) | (simp [bne_nil_]; done)), H', ⟨Nat.le_refl _⟩, by repeat (first | exact Drawn0.refl _ | apply Drawn0.step)⟩
  case round =>
    clear H'
    try clear p2
    obtain ⟨x5_1, rfl, HA, HK1, ⟨m1, rfl⟩⟩ := hrel
    cases gk with
    | zero => exact absurd HA.out (by simp [spec_indexOf.l0])
    | succ k1 =>
      have H := HA.out
      clear HA
      simp only [spec_indexOf.l0] at H
      by_cases c3 : x5_1 < (a0.size : Int)
      · rw [if_pos c3] at H
        have c3b0 : decide (x5_1 < (a0.size : Int)) = true := decide_eq_true c3
        clear c3
        by_cases c4 : 0 ≤ x5_1
        · rw [if_pos c4] at H
          have c4b0 : decide (0 ≤ x5_1) = true := decide_eq_true c4
          clear c4
          by_cases c6 : (bt a0 x5_1) = a1
          · rw [if_pos c6] at H
            have c6b0 : ((bt a0 x5_1) == a1) = true := beq_iff_eq.mpr c6
            have c6b1 : ((bt a0 x5_1) != a1) = false := bne_eq_false_iff_eq.mpr c6
            clear c6
            obtain rfl := Option.some.inj H
            have p5 : 0 ≤ (x5_1 : Int) := of_decide_eq_true (by first | (with_reducible assumption) | assumption)
            have q5 : x5_1 < (a0.size : Int) := of_decide_eq_true (by first | (with_reducible assumption) | assumption)
            have hx5 := bt_at a0 x5_1
            replace p5 := eq_true p5
            replace q5 := eq_true q5
            go_wp2
            go_ret
            exact ⟨by first | rfl | (simp; done) | (simp [*]; done) | (simp [bne_nil_]; done), by repeat (first | exact Drawn0.refl _ | apply Drawn0.step)⟩
          · rw [if_neg c6] at H
            have c6b0 : ((bt a0 x5_1) == a1) = false := beq_eq_false_iff_ne.mpr c6
            have c6b1 : ((bt a0 x5_1) != a1) = true := bne_iff_ne.mpr c6
            have H' := Aside0.mk H
            clear H
            have p5 : 0 ≤ (x5_1 : Int) := of_decide_eq_true (by first | (with_reducible assumption) | assumption)
            have q5 : x5_1 < (a0.size : Int) := of_decide_eq_true (by first | (with_reducible assumption) | assumption)
            have hx5 := bt_at a0 x5_1
            replace p5 := eq_true p5
            replace q5 := eq_true q5
            go_wp2
            go_roundg k1
            case measure => have := HK1.out; omega
            case rel => exact ⟨(wrap64 (x5_1 + 1)), (by first | rfl | (simp; done) | (simp [*]; done) | (simp [bne_nil_]; done)), H', ⟨by have := HK1.out; omega⟩, by repeat (first | exact Drawn0.refl _ | apply Drawn0.step)⟩
        · rw [if_neg c4] at H
          exact absurd H (by simp)
      · rw [if_neg c3] at H
        have c3b0 : decide (x5_1 < (a0.size : Int)) = false := decide_eq_false c3
        clear c3
        obtain rfl := Option.some.inj H
        go_wp2
        go_ret
        exact ⟨by first | rfl | (simp; done) | (simp [*]; done) | (simp [bne_nil_]; done), by repeat (first | exact Drawn0.refl _ | apply Drawn0.step)⟩

/-! ### spec_isDigit: function 38 -/
def spec_isDigit.f (a0 : Int) : Option (Bool) := if a0 ≥ 48 then (some (decide (a0 ≤ 57))) else (some false)
set_option maxHeartbeats 8000000 in
set_option maxRecDepth 100000 in
theorem spec_isDigit.calls (a0 : Int) (r : Bool) (w : World) (h : spec_isDigit.f a0 = some r) :
    Calls Tryz.prog 38 #[.int .u8 a0] w fun e w' => e = .returned (.bool r) ∧ Drawn0 w w' := by
  have H : (if a0 ≥ 48 then (some (decide (a0 ≤ 57))) else (some false)) = some r := h
  clear h
  by_cases c2 : a0 ≥ 48
  · rw [if_pos c2] at H
    have c2b0 : decide (48 ≤ a0) = true := decide_eq_true c2
    clear c2
    obtain rfl := Option.some.inj H
    go_enter Tryz.func38, Tryz.ntmps38
    go_wp2
    go_ret
    exact ⟨by first | rfl | (simp; done) | (simp [*]; done) | (simp [bne_nil_]; done), by repeat (first | exact Drawn0.refl _ | apply Drawn0.step)⟩
  · rw [if_neg c2] at H
    have c2b0 : decide (48 ≤ a0) = false := decide_eq_false c2
    clear c2
    obtain rfl := Option.some.inj H
    go_enter Tryz.func38, Tryz.ntmps38
    go_wp2
    go_ret
    exact ⟨by first | rfl | (simp; done) | (simp [*]; done) | (simp [bne_nil_]; done), by repeat (first | exact Drawn0.refl _ | apply Drawn0.step)⟩

/-! ### spec_allDigits: function 53 -/
def spec_allDigits.l0 : Nat → ByteArray → Int → Option (Bool)
  | 0, _, _ => none
  | k + 1, x0, x3 => if x3 < (x0.size : Int) then (if 0 ≤ x3 then ((spec_isDigit.f (bt x0 x3)).bind fun t125 => (if t125 = true then (spec_allDigits.l0 k x0 (wrap64 (x3 + 1))) else (some false))) else (none)) else (some (decide ((x0.size : Int) > 0)))
def spec_allDigits.f (k : Nat) (a0 : ByteArray) : Option (Bool) := spec_allDigits.l0 k a0 0
theorem spec_allDigits.mono_l : ∀ k, (∀ y0 y1, LeO (spec_allDigits.l0 k y0 y1) (spec_allDigits.l0 (k + 1) y0 y1))
  | 0 => fun _ _ r h => by simp [spec_allDigits.l0] at h
  | k + 1 => by
    have ih0 := spec_allDigits.mono_l k
    · intro y0 y1
      unfold spec_allDigits.l0
      repeat' first
      | (with_reducible exact ih0 _ _)
      | (with_reducible exact LeO.refl _)
      | (with_reducible exact LeO.none _)
      | (with_reducible refine LeO.ite ?_ ?_)
      | (with_reducible refine LeO.bind ?_ (fun _ => ?_))
      | exact ih0 _ _
      | exact LeO.none _
      | refine LeO.ite ?_ ?_
      | refine LeO.bind ?_ (fun _ => ?_)
theorem spec_allDigits.mono : ∀ a0 k, LeO (spec_allDigits.f k a0) (spec_allDigits.f (k + 1) a0) := by
  intro a0 k
  have ih0 := spec_allDigits.mono_l k
  unfold spec_allDigits.f
  repeat' first
      | (with_reducible exact ih0 _ _)
      | (with_reducible exact LeO.refl _)
      | (with_reducible exact LeO.none _)
      | (with_reducible refine LeO.ite ?_ ?_)
      | (with_reducible refine LeO.bind ?_ (fun _ => ?_))
      | exact ih0 _ _
      | exact LeO.none _
      | refine LeO.ite ?_ ?_
      | refine LeO.bind ?_ (fun _ => ?_)
set_option maxHeartbeats 8000000 in
set_option maxRecDepth 100000 in
theorem spec_allDigits.calls (k : Nat) (a0 : ByteArray) (r : Bool) (w : World) (h : spec_allDigits.f k a0 = some r) :
    Calls Tryz.prog 53 #[.string a0] w fun e w' => e = .returned (.bool r) ∧ Drawn0 w w' := by
  have H : (spec_allDigits.l0 k a0 0) = some r := h
  clear h
  have H' := Aside0.mk H
  clear H
  go_enter Tryz.func53, Tryz.ntmps53
  go_wp2
  go_loopg [3] k (fun kq v3 w' => ∃ (x3_1 : Int), v3 = .int .i64 x3_1 ∧ Aside0 (spec_allDigits.l0 kq a0 x3_1 = some r) ∧ Aside0 (kq ≤ k) ∧ Drawn0 w w')
  case atStart => exact ⟨(0), (by first | rfl | (simp; done) | (simp [*]; done) | (simp [bne_nil_]; done)), H', ⟨Nat.le_refl _⟩, by repeat (first | exact Drawn0.refl _ | apply Drawn0.step)⟩
  case round =>
    clear H'
    obtain ⟨x3_1, rfl, HA, HK1, ⟨m1, rfl⟩⟩ := hrel
    cases gk with
    | zero => exact absurd HA.out (by simp [spec_allDigits.l0])
    | succ k1 =>
      have H := HA.out
      clear HA
      simp only [spec_allDigits.l0] at H
      by_cases c2 : x3_1 < (a0.size : Int)
      · rw [if_pos c2] at H
        have c2b0 : decide (x3_1 < (a0.size : Int)) = true := decide_eq_true c2
        clear c2
        by_cases c3 : 0 ≤ x3_1
        · rw [if_pos c3] at H
          have c3b0 : decide (0 ≤ x3_1) = true := decide_eq_true c3
          clear c3
          replace H := Option.bind_eq_some_iff.mp H
          obtain ⟨t125, A50, H⟩ := H
          replace H : (if t125 = true then (spec_allDigits.l0 k1 a0 (wrap64 (x3_1 + 1))) else (some false)) = some r := H
          have A5 := Aside0.mk A50
          clear A50
          by_cases c6 : t125 = true
          · subst c6
            have H1 : (spec_allDigits.l0 k1 a0 (wrap64 (x3_1 + 1))) = some r := by rw [if_pos rfl] at H; exact H
            clear H
            have H := H1
            clear H1
            have H' := Aside0.mk H
            clear H
            have p4 : 0 ≤ (x3_1 : Int) := of_decide_eq_true (by first | (with_reducible assumption) | assumption)
            have q4 : x3_1 < (a0.size : Int) := of_decide_eq_true (by first | (with_reducible assumption) | assumption)
            have hx4 := bt_at a0 x3_1
            replace p4 := eq_true p4
            replace q4 := eq_true q4
            go_wp2_with (first | ((with_reducible refine gate_callee (f := 38) rfl ?_); refine goesL_ (some 13) rfl rfl Tryz.func38 (by kernel_rfl) rfl #[.int .u8 (bt a0 x3_1)] rfl (by (try simp only [List.map_toArray, List.map_cons, List.map_nil]); first | done | rfl | (simp only [List.length_drop, List.length_take]; rfl)) ?_; (with_reducible refine (spec_isDigit.calls (bt a0 x3_1) true _ A5.out).mono ?_); rintro e w' ⟨rfl, ⟨nd, rfl⟩⟩; refine ⟨_, rfl, ?_⟩))
            go_roundg k1
            case measure => have := HK1.out; omega
            case rel => exact ⟨(wrap64 (x3_1 + 1)), (by first | rfl | (simp; done) | (simp [*]; done) | (simp [bne_nil_]; done)), H', ⟨by have := HK1.out; omega⟩, by repeat (first | exact Drawn0.refl _ | apply Drawn0.step)⟩
          · replace c6 := Bool.eq_false_iff.mpr c6
            subst c6
            have H1 : (some false) = some r := by rw [if_neg (show ¬ (false = true) by decide)] at H; exact H
            clear H
            have H := H1
            clear H1
            obtain rfl := Option.some.inj H
            have p4 : 0 ≤ (x3_1 : Int) := of_decide_eq_true (by first | (with_reducible assumption) | assumption)
            have q4 : x3_1 < (a0.size : Int) := of_decide_eq_true (by first | (with_reducible assumption) | assumption)
            have hx4 := bt_at a0 x3_1
            replace p4 := eq_true p4
            replace q4 := eq_true q4
            go_wp2_with (first | ((with_reducible refine gate_callee (f := 38) rfl ?_); refine goesL_ (some 13) rfl rfl Tryz.func38 (by kernel_rfl) rfl #[.int .u8 (bt a0 x3_1)] rfl (by (try simp only [List.map_toArray, List.map_cons, List.map_nil]); first | done | rfl | (simp only [List.length_drop, List.length_take]; rfl)) ?_; (with_reducible refine (spec_isDigit.calls (bt a0 x3_1) false _ A5.out).mono ?_); rintro e w' ⟨rfl, ⟨nd, rfl⟩⟩; refine ⟨_, rfl, ?_⟩))
            go_ret
            exact ⟨by first | rfl | (simp; done) | (simp [*]; done) | (simp [bne_nil_]; done), by repeat (first | exact Drawn0.refl _ | apply Drawn0.step)⟩
        · rw [if_neg c3] at H
          exact absurd H (by simp)
      · rw [if_neg c2] at H
        have c2b0 : decide (x3_1 < (a0.size : Int)) = false := decide_eq_false c2
        clear c2
        obtain rfl := Option.some.inj H
        go_wp2
        go_ret
        exact ⟨by first | rfl | (simp; done) | (simp [*]; done) | (simp [bne_nil_]; done), by repeat (first | exact Drawn0.refl _ | apply Drawn0.step)⟩

/-! ### spec_isLetter: function 73 -/
def spec_isLetter.f (a0 : Int) : Option (Bool) := if a0 ≥ 97 then (if a0 ≤ 122 then (some true) else (if a0 ≥ 65 then (some (decide (a0 ≤ 90))) else (some false))) else (if a0 ≥ 65 then (some (decide (a0 ≤ 90))) else (some false))
set_option maxHeartbeats 8000000 in
set_option maxRecDepth 100000 in
theorem spec_isLetter.calls (a0 : Int) (r : Bool) (w : World) (h : spec_isLetter.f a0 = some r) :
    Calls Tryz.prog 73 #[.int .u8 a0] w fun e w' => e = .returned (.bool r) ∧ Drawn0 w w' := by
  have H : (if a0 ≥ 97 then (if a0 ≤ 122 then (some true) else (if a0 ≥ 65 then (some (decide (a0 ≤ 90))) else (some false))) else (if a0 ≥ 65 then (some (decide (a0 ≤ 90))) else (some false))) = some r := h
  clear h
  by_cases c2 : a0 ≥ 97
  · rw [if_pos c2] at H
    have c2b0 : decide (97 ≤ a0) = true := decide_eq_true c2
    clear c2
    by_cases c3 : a0 ≤ 122
    · rw [if_pos c3] at H
      have c3b0 : decide (a0 ≤ 122) = true := decide_eq_true c3
      clear c3
      obtain rfl := Option.some.inj H
      go_enter Tryz.func73, Tryz.ntmps73
      go_wp2
      go_ret
      exact ⟨by first | rfl | (simp; done) | (simp [*]; done) | (simp [bne_nil_]; done), by repeat (first | exact Drawn0.refl _ | apply Drawn0.step)⟩
    · rw [if_neg c3] at H
      have c3b0 : decide (a0 ≤ 122) = false := decide_eq_false c3
      clear c3
      by_cases c4 : a0 ≥ 65
      · rw [if_pos c4] at H
        have c4b0 : decide (65 ≤ a0) = true := decide_eq_true c4
        clear c4
        obtain rfl := Option.some.inj H
        go_enter Tryz.func73, Tryz.ntmps73
        go_wp2
        go_ret
        exact ⟨by first | rfl | (simp; done) | (simp [*]; done) | (simp [bne_nil_]; done), by repeat (first | exact Drawn0.refl _ | apply Drawn0.step)⟩
      · rw [if_neg c4] at H
        have c4b0 : decide (65 ≤ a0) = false := decide_eq_false c4
        clear c4
        obtain rfl := Option.some.inj H
        go_enter Tryz.func73, Tryz.ntmps73
        go_wp2
        go_ret
        exact ⟨by first | rfl | (simp; done) | (simp [*]; done) | (simp [bne_nil_]; done), by repeat (first | exact Drawn0.refl _ | apply Drawn0.step)⟩
  · rw [if_neg c2] at H
    have c2b0 : decide (97 ≤ a0) = false := decide_eq_false c2
    clear c2
    by_cases c5 : a0 ≥ 65
    · rw [if_pos c5] at H
      have c5b0 : decide (65 ≤ a0) = true := decide_eq_true c5
      clear c5
      obtain rfl := Option.some.inj H
      go_enter Tryz.func73, Tryz.ntmps73
      go_wp2
      go_ret
      exact ⟨by first | rfl | (simp; done) | (simp [*]; done) | (simp [bne_nil_]; done), by repeat (first | exact Drawn0.refl _ | apply Drawn0.step)⟩
    · rw [if_neg c5] at H
      have c5b0 : decide (65 ≤ a0) = false := decide_eq_false c5
      clear c5
      obtain rfl := Option.some.inj H
      go_enter Tryz.func73, Tryz.ntmps73
      go_wp2
      go_ret
      exact ⟨by first | rfl | (simp; done) | (simp [*]; done) | (simp [bne_nil_]; done), by repeat (first | exact Drawn0.refl _ | apply Drawn0.step)⟩

/-! ### spec_IdentifiersKnown: function 74 -/
def spec_IdentifiersKnown.l0 : Nat → List ByteArray → Int → Option (Bool)
  | 0, _, _ => none
  | k + 1, x0, x3 => if x3 < (x0.length : Int) then (if 0 ≤ x3 then (if ((rdOf ByteArray.empty x0 x3).size : Int) > 1 then (if 0 < ((rdOf ByteArray.empty x0 x3).size : Int) then (if (bt (rdOf ByteArray.empty x0 x3) 0) = 45 then (if 1 ≤ ((rdOf ByteArray.empty x0 x3).size : Int) then ((spec_allDigits.f k ((rdOf ByteArray.empty x0 x3).extract 1 (rdOf ByteArray.empty x0 x3).size)).bind fun t127 => (if t127 = true then (some false) else (spec_IdentifiersKnown.l0 k x0 (wrap64 (x3 + 1))))) else (none)) else (if (bt (rdOf ByteArray.empty x0 x3) 0) = 43 then (if 1 ≤ ((rdOf ByteArray.empty x0 x3).size : Int) then ((spec_allDigits.f k ((rdOf ByteArray.empty x0 x3).extract 1 (rdOf ByteArray.empty x0 x3).size)).bind fun t128 => (if t128 = true then (some false) else (spec_IdentifiersKnown.l0 k x0 (wrap64 (x3 + 1))))) else (none)) else (spec_IdentifiersKnown.l0 k x0 (wrap64 (x3 + 1))))) else (none)) else (spec_IdentifiersKnown.l0 k x0 (wrap64 (x3 + 1)))) else (none)) else (some true)
def spec_IdentifiersKnown.f (k : Nat) (l0 : List ByteArray) : Option (Bool) := spec_IdentifiersKnown.l0 k l0 0
theorem spec_IdentifiersKnown.mono_l : ∀ k, (∀ y0 y1, LeO (spec_IdentifiersKnown.l0 k y0 y1) (spec_IdentifiersKnown.l0 (k + 1) y0 y1))
  | 0 => fun _ _ r h => by simp [spec_IdentifiersKnown.l0] at h
  | k + 1 => by
    have ih0 := spec_IdentifiersKnown.mono_l k
    · intro y0 y1
      unfold spec_IdentifiersKnown.l0
      repeat' first
      | (with_reducible exact ih0 _ _)
      | (with_reducible exact spec_allDigits.mono _ _)
      | (with_reducible exact LeO.refl _)
      | (with_reducible exact LeO.none _)
      | (with_reducible refine LeO.ite ?_ ?_)
      | (with_reducible refine LeO.bind ?_ (fun _ => ?_))
      | exact ih0 _ _
      | exact spec_allDigits.mono _ _
      | exact LeO.none _
      | refine LeO.ite ?_ ?_
      | refine LeO.bind ?_ (fun _ => ?_)
theorem spec_IdentifiersKnown.mono : ∀ a0 k, LeO (spec_IdentifiersKnown.f k a0) (spec_IdentifiersKnown.f (k + 1) a0) := by
  intro a0 k
  have ih0 := spec_IdentifiersKnown.mono_l k
  unfold spec_IdentifiersKnown.f
  repeat' first
      | (with_reducible exact ih0 _ _)
      | (with_reducible exact spec_allDigits.mono _ _)
      | (with_reducible exact LeO.refl _)
      | (with_reducible exact LeO.none _)
      | (with_reducible refine LeO.ite ?_ ?_)
      | (with_reducible refine LeO.bind ?_ (fun _ => ?_))
      | exact ih0 _ _
      | exact spec_allDigits.mono _ _
      | exact LeO.none _
      | refine LeO.ite ?_ ?_
      | refine LeO.bind ?_ (fun _ => ?_)
set_option maxHeartbeats 8000000 in
set_option maxRecDepth 100000 in
theorem spec_IdentifiersKnown.calls (k : Nat) (A0 : Option Addr) (c0 : Nat) (l0 : List ByteArray) (r : Bool) (w : World) (hr0 : Kd.C Kd.string w A0 l0.length l0) (hc0 : l0.length ≤ c0) (h : spec_IdentifiersKnown.f k l0 = some r) :
    Calls Tryz.prog 74 #[.slice A0 l0.length c0] w fun e w' => e = .returned (.bool r) ∧ Drawn0 w w' := by
  have HR0 := Aside0.mk hr0
  have HC0 := Aside0.mk hc0
  clear hr0 hc0
  have H : (spec_IdentifiersKnown.l0 k l0 0) = some r := h
  clear h
  have H' := Aside0.mk H
  clear H
  go_enter Tryz.func74, Tryz.ntmps74
  go_wp2
  go_loopg [3] k (fun kq v3 w' => ∃ (x3_1 : Int), v3 = .int .i64 x3_1 ∧ Aside0 (spec_IdentifiersKnown.l0 kq l0 x3_1 = some r) ∧ Aside0 (kq ≤ k) ∧ Drawn0 w w')
  case atStart => exact ⟨(0), (by first | rfl | (simp; done) | (simp [*]; done) | (simp [bne_nil_]; done)), H', ⟨Nat.le_refl _⟩, by repeat (first | exact Drawn0.refl _ | apply Drawn0.step)⟩
  case round =>
    clear H'
    obtain ⟨x3_1, rfl, HA, HK1, ⟨m1, rfl⟩⟩ := hrel
    cases gk with
    | zero => exact absurd HA.out (by simp [spec_IdentifiersKnown.l0])
    | succ k1 =>
      have H := HA.out
      clear HA
      simp only [spec_IdentifiersKnown.l0] at H
      by_cases c2 : x3_1 < (l0.length : Int)
      · rw [if_pos c2] at H
        have c2b0 : decide (x3_1 < (l0.length : Int)) = true := decide_eq_true c2
        clear c2
        by_cases c3 : 0 ≤ x3_1
        · rw [if_pos c3] at H
          have c3b0 : decide (0 ≤ x3_1) = true := decide_eq_true c3
          clear c3
          by_cases c4 : ((rdOf ByteArray.empty l0 x3_1).size : Int) > 1
          · rw [if_pos c4] at H
            have c4b0 : decide (1 < ((rdOf ByteArray.empty l0 x3_1).size : Int)) = true := decide_eq_true c4
            have c4b1 : decide (1 < (rdOf ByteArray.empty l0 x3_1).size) = true := decide_eq_true (by omega)
            clear c4
            by_cases c5 : 0 < ((rdOf ByteArray.empty l0 x3_1).size : Int)
            · rw [if_pos c5] at H
              have c5b0 : decide (0 < ((rdOf ByteArray.empty l0 x3_1).size : Int)) = true := decide_eq_true c5
              have c5b1 : decide (0 < (rdOf ByteArray.empty l0 x3_1).size) = true := decide_eq_true (by omega)
              clear c5
              by_cases c7 : (bt (rdOf ByteArray.empty l0 x3_1) 0) = 45
              · rw [if_pos c7] at H
                have c7b0 : ((bt (rdOf ByteArray.empty l0 x3_1) 0) == 45) = true := beq_iff_eq.mpr c7
                have c7b1 : ((bt (rdOf ByteArray.empty l0 x3_1) 0) != 45) = false := bne_eq_false_iff_eq.mpr c7
                clear c7
                by_cases c8 : 1 ≤ ((rdOf ByteArray.empty l0 x3_1).size : Int)
                · rw [if_pos c8] at H
                  have c8b0 := eq_true c8
                  have c8b1 : decide (1 ≤ ((rdOf ByteArray.empty l0 x3_1).size : Int)) = true := decide_eq_true c8
                  clear c8
                  replace H := Option.bind_eq_some_iff.mp H
                  obtain ⟨t127, A90, H⟩ := H
                  replace H : (if t127 = true then (some false) else (spec_IdentifiersKnown.l0 k1 l0 (wrap64 (x3_1 + 1)))) = some r := H
                  have A9 := Aside0.mk A90
                  clear A90
                  by_cases c10 : t127 = true
                  · subst c10
                    have H1 : (some false) = some r := by rw [if_pos rfl] at H; exact H
                    clear H
                    have H := H1
                    clear H1
                    obtain rfl := Option.some.inj H
                    have p126 : 0 ≤ (x3_1 : Int) := of_decide_eq_true (by first | (with_reducible assumption) | assumption)
                    have q126 : x3_1 < (l0.length : Int) := of_decide_eq_true (by first | (with_reducible assumption) | assumption)
                    obtain ⟨ad126, e126, hx126_0⟩ := Kd.at_string HR0.out x3_1 p126 q126
                    cases e126
                    replace p126 := eq_true p126
                    replace q126 := eq_true q126
                    have p6 : 0 ≤ (0 : Int) := (by omega)
                    have q6 : 0 < (rdOf ByteArray.empty l0 x3_1).size := (by have : (0 : Int) < ((rdOf ByteArray.empty l0 x3_1).size : Int) := of_decide_eq_true (by first | (with_reducible assumption) | assumption); omega)
                    have hx6 : ∀ h : 0 < (rdOf ByteArray.empty l0 x3_1).size, (((rdOf ByteArray.empty l0 x3_1)[0]'h).toNat : Int) = bt (rdOf ByteArray.empty l0 x3_1) 0 := bt_at (rdOf ByteArray.empty l0 x3_1) 0
                    clear p6
                    have qi6 : (0 < ((rdOf ByteArray.empty l0 x3_1).size : Int)) = True := eq_true (of_decide_eq_true (by first | (with_reducible assumption) | assumption))
                    replace q6 := eq_true q6
                    go_wp2_with (first | (go_at_call 53; (with_reducible refine (spec_allDigits.calls k1 ((rdOf ByteArray.empty l0 x3_1).extract 1 (rdOf ByteArray.empty l0 x3_1).size) true _ A9.out).mono ?_); rintro e w' ⟨rfl, ⟨nd, rfl⟩⟩))
                    go_ret
                    exact ⟨by first | rfl | (simp; done) | (simp [*]; done) | (simp [bne_nil_]; done), by repeat (first | exact Drawn0.refl _ | apply Drawn0.step)⟩
                  · replace c10 := Bool.eq_false_iff.mpr c10
                    subst c10
                    have H1 : (spec_IdentifiersKnown.l0 k1 l0 (wrap64 (x3_1 + 1))) = some r := by rw [if_neg (show ¬ (false = true) by decide)] at H; exact H
                    clear H
                    have H := H1
                    clear H1
                    have H' := Aside0.mk H
                    clear H
                    have p126 : 0 ≤ (x3_1 : Int) := of_decide_eq_true (by first | (with_reducible assumption) | assumption)
                    have q126 : x3_1 < (l0.length : Int) := of_decide_eq_true (by first | (with_reducible assumption) | assumption)
                    obtain ⟨ad126, e126, hx126_0⟩ := Kd.at_string HR0.out x3_1 p126 q126
                    cases e126
                    replace p126 := eq_true p126
                    replace q126 := eq_true q126
                    have p6 : 0 ≤ (0 : Int) := (by omega)
                    have q6 : 0 < (rdOf ByteArray.empty l0 x3_1).size := (by have : (0 : Int) < ((rdOf ByteArray.empty l0 x3_1).size : Int) := of_decide_eq_true (by first | (with_reducible assumption) | assumption); omega)
                    have hx6 : ∀ h : 0 < (rdOf ByteArray.empty l0 x3_1).size, (((rdOf ByteArray.empty l0 x3_1)[0]'h).toNat : Int) = bt (rdOf ByteArray.empty l0 x3_1) 0 := bt_at (rdOf ByteArray.empty l0 x3_1) 0
                    clear p6
                    have qi6 : (0 < ((rdOf ByteArray.empty l0 x3_1).size : Int)) = True := eq_true (of_decide_eq_true (by first | (with_reducible assumption) | assumption))
                    replace q6 := eq_true q6
                    go_wp2_with (first | (go_at_call 53; (with_reducible refine (spec_allDigits.calls k1 ((rdOf ByteArray.empty l0 x3_1).extract 1 (rdOf ByteArray.empty l0 x3_1).size) false _ A9.out).mono ?_); rintro e w' ⟨rfl, ⟨nd, rfl⟩⟩))
                    go_roundg k1
                    case measure => have := HK1.out; omega
                    case rel => exact ⟨(wrap64 (x3_1 + 1)), (by first | rfl | (simp; done) | (simp [*]; done) | (simp [bne_nil_]; done)), H', ⟨by have := HK1.out; omega⟩, by repeat (first | exact Drawn0.refl _ | apply Drawn0.step)⟩
                · rw [if_neg c8] at H
                  exact absurd H (by simp)
              · rw [if_neg c7] at H
                have c7b0 : ((bt (rdOf ByteArray.empty l0 x3_1) 0) == 45) = false := beq_eq_false_iff_ne.mpr c7
                have c7b1 : ((bt (rdOf ByteArray.empty l0 x3_1) 0) != 45) = true := bne_iff_ne.mpr c7
                by_cases c12 : (bt (rdOf ByteArray.empty l0 x3_1) 0) = 43
                · rw [if_pos c12] at H
                  have c12b0 : ((bt (rdOf ByteArray.empty l0 x3_1) 0) == 43) = true := beq_iff_eq.mpr c12
                  have c12b1 : ((bt (rdOf ByteArray.empty l0 x3_1) 0) != 43) = false := bne_eq_false_iff_eq.mpr c12
                  clear c12
                  by_cases c13 : 1 ≤ ((rdOf ByteArray.empty l0 x3_1).size : Int)
                  · rw [if_pos c13] at H
                    have c13b0 := eq_true c13
                    have c13b1 : decide (1 ≤ ((rdOf ByteArray.empty l0 x3_1).size : Int)) = true := decide_eq_true c13
                    clear c13
                    replace H := Option.bind_eq_some_iff.mp H
                    obtain ⟨t128, A140, H⟩ := H
                    replace H : (if t128 = true then (some false) else (spec_IdentifiersKnown.l0 k1 l0 (wrap64 (x3_1 + 1)))) = some r := H
                    have A14 := Aside0.mk A140
                    clear A140
                    by_cases c15 : t128 = true
                    · subst c15
                      have H1 : (some false) = some r := by rw [if_pos rfl] at H; exact H
                      clear H
                      have H := H1
                      clear H1
                      obtain rfl := Option.some.inj H
                      have p126 : 0 ≤ (x3_1 : Int) := of_decide_eq_true (by first | (with_reducible assumption) | assumption)
                      have q126 : x3_1 < (l0.length : Int) := of_decide_eq_true (by first | (with_reducible assumption) | assumption)
                      obtain ⟨ad126, e126, hx126_0⟩ := Kd.at_string HR0.out x3_1 p126 q126
                      cases e126
                      replace p126 := eq_true p126
                      replace q126 := eq_true q126
                      have p6 : 0 ≤ (0 : Int) := (by omega)
                      have q6 : 0 < (rdOf ByteArray.empty l0 x3_1).size := (by have : (0 : Int) < ((rdOf ByteArray.empty l0 x3_1).size : Int) := of_decide_eq_true (by first | (with_reducible assumption) | assumption); omega)
                      have hx6 : ∀ h : 0 < (rdOf ByteArray.empty l0 x3_1).size, (((rdOf ByteArray.empty l0 x3_1)[0]'h).toNat : Int) = bt (rdOf ByteArray.empty l0 x3_1) 0 := bt_at (rdOf ByteArray.empty l0 x3_1) 0
                      clear p6
                      have qi6 : (0 < ((rdOf ByteArray.empty l0 x3_1).size : Int)) = True := eq_true (of_decide_eq_true (by first | (with_reducible assumption) | assumption))
                      replace q6 := eq_true q6
                      have p11 : 0 ≤ (0 : Int) := (by omega)
                      have q11 : 0 < (rdOf ByteArray.empty l0 x3_1).size := (by have : (0 : Int) < ((rdOf ByteArray.empty l0 x3_1).size : Int) := of_decide_eq_true (by first | (with_reducible assumption) | assumption); omega)
                      have hx11 : ∀ h : 0 < (rdOf ByteArray.empty l0 x3_1).size, (((rdOf ByteArray.empty l0 x3_1)[0]'h).toNat : Int) = bt (rdOf ByteArray.empty l0 x3_1) 0 := bt_at (rdOf ByteArray.empty l0 x3_1) 0
                      clear p11
                      have qi11 : (0 < ((rdOf ByteArray.empty l0 x3_1).size : Int)) = True := eq_true (of_decide_eq_true (by first | (with_reducible assumption) | assumption))
                      replace q11 := eq_true q11
                      go_wp2_with (first | (go_at_call 53; (with_reducible refine (spec_allDigits.calls k1 ((rdOf ByteArray.empty l0 x3_1).extract 1 (rdOf ByteArray.empty l0 x3_1).size) true _ A14.out).mono ?_); rintro e w' ⟨rfl, ⟨nd, rfl⟩⟩))
                      go_ret
                      exact ⟨by first | rfl | (simp; done) | (simp [*]; done) | (simp [bne_nil_]; done), by repeat (first | exact Drawn0.refl _ | apply Drawn0.step)⟩
                    · replace c15 := Bool.eq_false_iff.mpr c15
                      subst c15
                      have H1 : (spec_IdentifiersKnown.l0 k1 l0 (wrap64 (x3_1 + 1))) = some r := by rw [if_neg (show ¬ (false = true) by decide)] at H; exact H
                      clear H
                      have H := H1
                      clear H1
                      have H' := Aside0.mk H
                      clear H
                      have p126 : 0 ≤ (x3_1 : Int) := of_decide_eq_true (by first | (with_reducible assumption) | assumption)
                      have q126 : x3_1 < (l0.length : Int) := of_decide_eq_true (by first | (with_reducible assumption) | assumption)
                      obtain ⟨ad126, e126, hx126_0⟩ := Kd.at_string HR0.out x3_1 p126 q126
                      cases e126
                      replace p126 := eq_true p126
                      replace q126 := eq_true q126
                      have p6 : 0 ≤ (0 : Int) := (by omega)
                      have q6 : 0 < (rdOf ByteArray.empty l0 x3_1).size := (by have : (0 : Int) < ((rdOf ByteArray.empty l0 x3_1).size : Int) := of_decide_eq_true (by first | (with_reducible assumption) | assumption); omega)
                      have hx6 : ∀ h : 0 < (rdOf ByteArray.empty l0 x3_1).size, (((rdOf ByteArray.empty l0 x3_1)[0]'h).toNat : Int) = bt (rdOf ByteArray.empty l0 x3_1) 0 := bt_at (rdOf ByteArray.empty l0 x3_1) 0
                      clear p6
                      have qi6 : (0 < ((rdOf ByteArray.empty l0 x3_1).size : Int)) = True := eq_true (of_decide_eq_true (by first | (with_reducible assumption) | assumption))
                      replace q6 := eq_true q6
                      have p11 : 0 ≤ (0 : Int) := (by omega)
                      have q11 : 0 < (rdOf ByteArray.empty l0 x3_1).size := (by have : (0 : Int) < ((rdOf ByteArray.empty l0 x3_1).size : Int) := of_decide_eq_true (by first | (with_reducible assumption) | assumption); omega)
                      have hx11 : ∀ h : 0 < (rdOf ByteArray.empty l0 x3_1).size, (((rdOf ByteArray.empty l0 x3_1)[0]'h).toNat : Int) = bt (rdOf ByteArray.empty l0 x3_1) 0 := bt_at (rdOf ByteArray.empty l0 x3_1) 0
                      clear p11
                      have qi11 : (0 < ((rdOf ByteArray.empty l0 x3_1).size : Int)) = True := eq_true (of_decide_eq_true (by first | (with_reducible assumption) | assumption))
                      replace q11 := eq_true q11
                      go_wp2_with (first | (go_at_call 53; (with_reducible refine (spec_allDigits.calls k1 ((rdOf ByteArray.empty l0 x3_1).extract 1 (rdOf ByteArray.empty l0 x3_1).size) false _ A14.out).mono ?_); rintro e w' ⟨rfl, ⟨nd, rfl⟩⟩))
                      go_roundg k1
                      case measure => have := HK1.out; omega
                      case rel => exact ⟨(wrap64 (x3_1 + 1)), (by first | rfl | (simp; done) | (simp [*]; done) | (simp [bne_nil_]; done)), H', ⟨by have := HK1.out; omega⟩, by repeat (first | exact Drawn0.refl _ | apply Drawn0.step)⟩
                  · rw [if_neg c13] at H
                    exact absurd H (by simp)
                · rw [if_neg c12] at H
                  have c12b0 : ((bt (rdOf ByteArray.empty l0 x3_1) 0) == 43) = false := beq_eq_false_iff_ne.mpr c12
                  have c12b1 : ((bt (rdOf ByteArray.empty l0 x3_1) 0) != 43) = true := bne_iff_ne.mpr c12
                  have H' := Aside0.mk H
                  clear H
                  have p126 : 0 ≤ (x3_1 : Int) := of_decide_eq_true (by first | (with_reducible assumption) | assumption)
                  have q126 : x3_1 < (l0.length : Int) := of_decide_eq_true (by first | (with_reducible assumption) | assumption)
                  obtain ⟨ad126, e126, hx126_0⟩ := Kd.at_string HR0.out x3_1 p126 q126
                  cases e126
                  replace p126 := eq_true p126
                  replace q126 := eq_true q126
                  have p6 : 0 ≤ (0 : Int) := (by omega)
                  have q6 : 0 < (rdOf ByteArray.empty l0 x3_1).size := (by have : (0 : Int) < ((rdOf ByteArray.empty l0 x3_1).size : Int) := of_decide_eq_true (by first | (with_reducible assumption) | assumption); omega)
                  have hx6 : ∀ h : 0 < (rdOf ByteArray.empty l0 x3_1).size, (((rdOf ByteArray.empty l0 x3_1)[0]'h).toNat : Int) = bt (rdOf ByteArray.empty l0 x3_1) 0 := bt_at (rdOf ByteArray.empty l0 x3_1) 0
                  clear p6
                  have qi6 : (0 < ((rdOf ByteArray.empty l0 x3_1).size : Int)) = True := eq_true (of_decide_eq_true (by first | (with_reducible assumption) | assumption))
                  replace q6 := eq_true q6
                  have p11 : 0 ≤ (0 : Int) := (by omega)
                  have q11 : 0 < (rdOf ByteArray.empty l0 x3_1).size := (by have : (0 : Int) < ((rdOf ByteArray.empty l0 x3_1).size : Int) := of_decide_eq_true (by first | (with_reducible assumption) | assumption); omega)
                  have hx11 : ∀ h : 0 < (rdOf ByteArray.empty l0 x3_1).size, (((rdOf ByteArray.empty l0 x3_1)[0]'h).toNat : Int) = bt (rdOf ByteArray.empty l0 x3_1) 0 := bt_at (rdOf ByteArray.empty l0 x3_1) 0
                  clear p11
                  have qi11 : (0 < ((rdOf ByteArray.empty l0 x3_1).size : Int)) = True := eq_true (of_decide_eq_true (by first | (with_reducible assumption) | assumption))
                  replace q11 := eq_true q11
                  go_wp2
                  go_roundg k1
                  case measure => have := HK1.out; omega
                  case rel => exact ⟨(wrap64 (x3_1 + 1)), (by first | rfl | (simp; done) | (simp [*]; done) | (simp [bne_nil_]; done)), H', ⟨by have := HK1.out; omega⟩, by repeat (first | exact Drawn0.refl _ | apply Drawn0.step)⟩
            · rw [if_neg c5] at H
              exact absurd H (by simp)
          · rw [if_neg c4] at H
            have c4b0 : decide (1 < ((rdOf ByteArray.empty l0 x3_1).size : Int)) = false := decide_eq_false c4
            have c4b1 : decide (1 < (rdOf ByteArray.empty l0 x3_1).size) = false := decide_eq_false (by omega)
            clear c4
            have H' := Aside0.mk H
            clear H
            have p126 : 0 ≤ (x3_1 : Int) := of_decide_eq_true (by first | (with_reducible assumption) | assumption)
            have q126 : x3_1 < (l0.length : Int) := of_decide_eq_true (by first | (with_reducible assumption) | assumption)
            obtain ⟨ad126, e126, hx126_0⟩ := Kd.at_string HR0.out x3_1 p126 q126
            cases e126
            replace p126 := eq_true p126
            replace q126 := eq_true q126
            go_wp2
            go_roundg k1
            case measure => have := HK1.out; omega
            case rel => exact ⟨(wrap64 (x3_1 + 1)), (by first | rfl | (simp; done) | (simp [*]; done) | (simp [bne_nil_]; done)), H', ⟨by have := HK1.out; omega⟩, by repeat (first | exact Drawn0.refl _ | apply Drawn0.step)⟩
        · rw [if_neg c3] at H
          exact absurd H (by simp)
      · rw [if_neg c2] at H
        have c2b0 : decide (x3_1 < (l0.length : Int)) = false := decide_eq_false c2
        clear c2
        obtain rfl := Option.some.inj H
        go_wp2
        go_ret
        exact ⟨by first | rfl | (simp; done) | (simp [*]; done) | (simp [bne_nil_]; done), by repeat (first | exact Drawn0.refl _ | apply Drawn0.step)⟩

/-! ### spec_pageWords: function 52 -/
mutual
def spec_pageWords.l0 : Nat → List ByteArray → Bool → Int → Option (Bool)
  | 0, _, _, _ => none
  | k + 1, x0, x1, x5 => if x5 < (x0.length : Int) then (if 0 ≤ x5 then (spec_pageWords.l1 k x0 x1 x5 (rdOf ByteArray.empty x0 x5) 0) else (none)) else (if x1 = true then ((spec_IdentifiersKnown.f k x0).bind fun t129 => (some t129)) else (some true))
def spec_pageWords.l1 : Nat → List ByteArray → Bool → Int → ByteArray → Int → Option (Bool)
  | 0, _, _, _, _, _ => none
  | k + 1, x0, x1, x5, x6, x7 => if x7 < (x6.size : Int) then (if 0 ≤ x7 then ((spec_isDigit.f (bt x6 x7)).bind fun t132 => (if t132 = true then (spec_pageWords.l1 k x0 x1 x5 x6 (wrap64 (x7 + 1))) else ((spec_isLetter.f (bt x6 x7)).bind fun t133 => (if t133 = true then (spec_pageWords.l1 k x0 x1 x5 x6 (wrap64 (x7 + 1))) else (if (bt x6 x7) = 45 then (spec_pageWords.l1 k x0 x1 x5 x6 (wrap64 (x7 + 1))) else (some false)))))) else (none)) else (if x6.toList = ([] : List UInt8) then (some false) else (if x1 = true then (if (x6.size : Int) > 1 then (if 0 < (x6.size : Int) then (if (bt x6 0) = 48 then ((spec_allDigits.f k x6).bind fun t131 => (if t131 = true then (some false) else (spec_pageWords.l0 k x0 x1 (wrap64 (x5 + 1))))) else (spec_pageWords.l0 k x0 x1 (wrap64 (x5 + 1)))) else (none)) else (spec_pageWords.l0 k x0 x1 (wrap64 (x5 + 1)))) else (spec_pageWords.l0 k x0 x1 (wrap64 (x5 + 1)))))
end
def spec_pageWords.f (k : Nat) (l0 : List ByteArray) (a1 : Bool) : Option (Bool) := spec_pageWords.l0 k l0 a1 0
theorem spec_pageWords.mono_l : ∀ k, (∀ y0 y1 y2, LeO (spec_pageWords.l0 k y0 y1 y2) (spec_pageWords.l0 (k + 1) y0 y1 y2)) ∧ (∀ y0 y1 y2 y3 y4, LeO (spec_pageWords.l1 k y0 y1 y2 y3 y4) (spec_pageWords.l1 (k + 1) y0 y1 y2 y3 y4))
  | 0 => ⟨fun _ _ _ r h => by simp [spec_pageWords.l0] at h, fun _ _ _ _ _ r h => by simp [spec_pageWords.l1] at h⟩
  | k + 1 => by
    obtain ⟨ih0, ih1⟩ := spec_pageWords.mono_l k
    refine ⟨?_, ?_⟩
    · intro y0 y1 y2
      unfold spec_pageWords.l0
      repeat' first
      | (with_reducible exact ih0 _ _ _)
      | (with_reducible exact ih1 _ _ _ _ _)
      | (with_reducible exact spec_IdentifiersKnown.mono _ _)
      | (with_reducible exact spec_allDigits.mono _ _)
      | (with_reducible exact LeO.refl _)
      | (with_reducible exact LeO.none _)
      | (with_reducible refine LeO.ite ?_ ?_)
      | (with_reducible refine LeO.bind ?_ (fun _ => ?_))
      | exact ih0 _ _ _
      | exact ih1 _ _ _ _ _
      | exact spec_IdentifiersKnown.mono _ _
      | exact spec_allDigits.mono _ _
      | exact LeO.none _
      | refine LeO.ite ?_ ?_
      | refine LeO.bind ?_ (fun _ => ?_)
    · intro y0 y1 y2 y3 y4
      unfold spec_pageWords.l1
      repeat' first
      | (with_reducible exact ih0 _ _ _)
      | (with_reducible exact ih1 _ _ _ _ _)
      | (with_reducible exact spec_IdentifiersKnown.mono _ _)
      | (with_reducible exact spec_allDigits.mono _ _)
      | (with_reducible exact LeO.refl _)
      | (with_reducible exact LeO.none _)
      | (with_reducible refine LeO.ite ?_ ?_)
      | (with_reducible refine LeO.bind ?_ (fun _ => ?_))
      | exact ih0 _ _ _
      | exact ih1 _ _ _ _ _
      | exact spec_IdentifiersKnown.mono _ _
      | exact spec_allDigits.mono _ _
      | exact LeO.none _
      | refine LeO.ite ?_ ?_
      | refine LeO.bind ?_ (fun _ => ?_)
theorem spec_pageWords.mono : ∀ a0 a1 k, LeO (spec_pageWords.f k a0 a1) (spec_pageWords.f (k + 1) a0 a1) := by
  intro a0 a1 k
  obtain ⟨ih0, ih1⟩ := spec_pageWords.mono_l k
  unfold spec_pageWords.f
  repeat' first
      | (with_reducible exact ih0 _ _ _)
      | (with_reducible exact ih1 _ _ _ _ _)
      | (with_reducible exact spec_IdentifiersKnown.mono _ _)
      | (with_reducible exact spec_allDigits.mono _ _)
      | (with_reducible exact LeO.refl _)
      | (with_reducible exact LeO.none _)
      | (with_reducible refine LeO.ite ?_ ?_)
      | (with_reducible refine LeO.bind ?_ (fun _ => ?_))
      | exact ih0 _ _ _
      | exact ih1 _ _ _ _ _
      | exact spec_IdentifiersKnown.mono _ _
      | exact spec_allDigits.mono _ _
      | exact LeO.none _
      | refine LeO.ite ?_ ?_
      | refine LeO.bind ?_ (fun _ => ?_)
set_option maxHeartbeats 8000000 in
set_option maxRecDepth 100000 in
theorem spec_pageWords.calls (k : Nat) (A0 : Option Addr) (c0 : Nat) (l0 : List ByteArray) (a1 : Bool) (r : Bool) (w : World) (hr0 : Kd.C Kd.string w A0 l0.length l0) (hc0 : l0.length ≤ c0) (h : spec_pageWords.f k l0 a1 = some r) :
    Calls Tryz.prog 52 #[.slice A0 l0.length c0, .bool a1] w fun e w' => e = .returned (.bool r) ∧ Drawn0 w w' := by
  have HR0 := Aside0.mk hr0
  have HC0 := Aside0.mk hc0
  clear hr0 hc0
  have H : (spec_pageWords.l0 k l0 a1 0) = some r := h
  clear h
  have H' := Aside0.mk H
  clear H
  go_enter Tryz.func52, Tryz.ntmps52
  go_wp2
  go_loopg [5] k (fun kq v5 w' => ∃ (x5_1 : Int), v5 = .int .i64 x5_1 ∧ Aside0 (spec_pageWords.l0 kq l0 a1 x5_1 = some r) ∧ Aside0 (kq ≤ k) ∧ Drawn0 w w')
  case atStart => exact ⟨(0), (by first | rfl | (simp; done) | (simp [*]; done) | (simp [bne_nil_]; done)), H', ⟨Nat.le_refl _⟩, by repeat (first | exact Drawn0.refl _ | apply Drawn0.step)⟩
  case round =>
    clear H'
    try clear p2
    obtain ⟨x5_1, rfl, HA, HK1, ⟨m1, rfl⟩⟩ := hrel
    cases gk with
    | zero => exact absurd HA.out (by simp [spec_pageWords.l0])
    | succ k1 =>
      have H := HA.out
      clear HA
      simp only [spec_pageWords.l0] at H
      by_cases c3 : x5_1 < (l0.length : Int)
      · rw [if_pos c3] at H
        have c3b0 : decide (x5_1 < (l0.length : Int)) = true := decide_eq_true c3
        clear c3
        by_cases c4 : 0 ≤ x5_1
        · rw [if_pos c4] at H
          have c4b0 : decide (0 ≤ x5_1) = true := decide_eq_true c4
          clear c4
          have H' := Aside0.mk H
          clear H
          have p130 : 0 ≤ (x5_1 : Int) := of_decide_eq_true (by first | (with_reducible assumption) | assumption)
          have q130 : x5_1 < (l0.length : Int) := of_decide_eq_true (by first | (with_reducible assumption) | assumption)
          obtain ⟨ad130, e130, hx130_0⟩ := Kd.at_string HR0.out x5_1 p130 q130
          cases e130
          replace p130 := eq_true p130
          replace q130 := eq_true q130
          go_wp2
          go_loopg [7] k1 (fun kq v7 w' => ∃ (x7_2 : Int), v7 = .int .i64 x7_2 ∧ Aside0 (spec_pageWords.l1 kq l0 a1 x5_1 (rdOf ByteArray.empty l0 x5_1) x7_2 = some r) ∧ Aside0 (kq ≤ k1) ∧ Drawn0 w w')
          case atStart => exact ⟨(0), (by first | rfl | (simp; done) | (simp [*]; done) | (simp [bne_nil_]; done)), H', ⟨Nat.le_refl _⟩, by repeat (first | exact Drawn0.refl _ | apply Drawn0.step)⟩
          case round =>
            clear H'
            try clear p1
            try clear q1
            try clear hx1
            try clear p2
            try clear c3
            try clear c3b0
            try clear c4
            try clear c4b0
            try clear hx130_0
            try clear p130
            try clear p2
            try clear q130
            obtain ⟨x7_2, rfl, HA, HK2, ⟨m2, rfl⟩⟩ := hrel
            cases gk with
            | zero => exact absurd HA.out (by simp [spec_pageWords.l1])
            | succ k2 =>
              have H := HA.out
              clear HA
              simp only [spec_pageWords.l1] at H
              by_cases c5 : x7_2 < ((rdOf ByteArray.empty l0 x5_1).size : Int)
              · rw [if_pos c5] at H
                have c5b0 : decide (x7_2 < ((rdOf ByteArray.empty l0 x5_1).size : Int)) = true := decide_eq_true c5
                clear c5
                by_cases c6 : 0 ≤ x7_2
                · rw [if_pos c6] at H
                  have c6b0 : decide (0 ≤ x7_2) = true := decide_eq_true c6
                  clear c6
                  replace H := Option.bind_eq_some_iff.mp H
                  obtain ⟨t132, A80, H⟩ := H
                  replace H : (if t132 = true then (spec_pageWords.l1 k2 l0 a1 x5_1 (rdOf ByteArray.empty l0 x5_1) (wrap64 (x7_2 + 1))) else ((spec_isLetter.f (bt (rdOf ByteArray.empty l0 x5_1) x7_2)).bind fun t133 => (if t133 = true then (spec_pageWords.l1 k2 l0 a1 x5_1 (rdOf ByteArray.empty l0 x5_1) (wrap64 (x7_2 + 1))) else (if (bt (rdOf ByteArray.empty l0 x5_1) x7_2) = 45 then (spec_pageWords.l1 k2 l0 a1 x5_1 (rdOf ByteArray.empty l0 x5_1) (wrap64 (x7_2 + 1))) else (some false))))) = some r := H
                  have A8 := Aside0.mk A80
                  clear A80
                  by_cases c9 : t132 = true
                  · subst c9
                    have H1 : (spec_pageWords.l1 k2 l0 a1 x5_1 (rdOf ByteArray.empty l0 x5_1) (wrap64 (x7_2 + 1))) = some r := by rw [if_pos rfl] at H; exact H
                    clear H
                    have H := H1
                    clear H1
                    have H' := Aside0.mk H
                    clear H
                    have p7 : 0 ≤ (x7_2 : Int) := of_decide_eq_true (by first | (with_reducible assumption) | assumption)
                    have q7 : x7_2 < ((rdOf ByteArray.empty l0 x5_1).size : Int) := of_decide_eq_true (by first | (with_reducible assumption) | assumption)
                    have hx7 := bt_at (rdOf ByteArray.empty l0 x5_1) x7_2
                    replace p7 := eq_true p7
                    replace q7 := eq_true q7
                    go_wp2_with (first | ((with_reducible refine gate_callee (f := 38) rfl ?_); refine goesL_ (some 27) rfl rfl Tryz.func38 (by kernel_rfl) rfl #[.int .u8 (bt (rdOf ByteArray.empty l0 x5_1) x7_2)] rfl (by (try simp only [List.map_toArray, List.map_cons, List.map_nil]); first | done | rfl | (simp only [List.length_drop, List.length_take]; rfl)) ?_; (with_reducible refine (spec_isDigit.calls (bt (rdOf ByteArray.empty l0 x5_1) x7_2) true _ A8.out).mono ?_); rintro e w' ⟨rfl, ⟨nd, rfl⟩⟩; refine ⟨_, rfl, ?_⟩))
                    go_roundg k2
                    case measure => have := HK1.out; have := HK2.out; omega
                    case rel => exact ⟨(wrap64 (x7_2 + 1)), (by first | rfl | (simp; done) | (simp [*]; done) | (simp [bne_nil_]; done)), H', ⟨by have := HK1.out; have := HK2.out; omega⟩, by repeat (first | exact Drawn0.refl _ | apply Drawn0.step)⟩
                  · replace c9 := Bool.eq_false_iff.mpr c9
                    subst c9
                    have H1 : ((spec_isLetter.f (bt (rdOf ByteArray.empty l0 x5_1) x7_2)).bind fun t133 => (if t133 = true then (spec_pageWords.l1 k2 l0 a1 x5_1 (rdOf ByteArray.empty l0 x5_1) (wrap64 (x7_2 + 1))) else (if (bt (rdOf ByteArray.empty l0 x5_1) x7_2) = 45 then (spec_pageWords.l1 k2 l0 a1 x5_1 (rdOf ByteArray.empty l0 x5_1) (wrap64 (x7_2 + 1))) else (some false)))) = some r := by rw [if_neg (show ¬ (false = true) by decide)] at H; exact H
                    clear H
                    have H := H1
                    clear H1
                    replace H := Option.bind_eq_some_iff.mp H
                    obtain ⟨t133, A110, H⟩ := H
                    replace H : (if t133 = true then (spec_pageWords.l1 k2 l0 a1 x5_1 (rdOf ByteArray.empty l0 x5_1) (wrap64 (x7_2 + 1))) else (if (bt (rdOf ByteArray.empty l0 x5_1) x7_2) = 45 then (spec_pageWords.l1 k2 l0 a1 x5_1 (rdOf ByteArray.empty l0 x5_1) (wrap64 (x7_2 + 1))) else (some false))) = some r := H
                    have A11 := Aside0.mk A110
                    clear A110
                    by_cases c12 : t133 = true
                    · subst c12
                      have H1 : (spec_pageWords.l1 k2 l0 a1 x5_1 (rdOf ByteArray.empty l0 x5_1) (wrap64 (x7_2 + 1))) = some r := by rw [if_pos rfl] at H; exact H
                      clear H
                      have H := H1
                      clear H1
                      have H' := Aside0.mk H
                      clear H
                      have p7 : 0 ≤ (x7_2 : Int) := of_decide_eq_true (by first | (with_reducible assumption) | assumption)
                      have q7 : x7_2 < ((rdOf ByteArray.empty l0 x5_1).size : Int) := of_decide_eq_true (by first | (with_reducible assumption) | assumption)
                      have hx7 := bt_at (rdOf ByteArray.empty l0 x5_1) x7_2
                      replace p7 := eq_true p7
                      replace q7 := eq_true q7
                      go_wp2_with (first | ((with_reducible refine gate_callee (f := 38) rfl ?_); refine goesL_ (some 27) rfl rfl Tryz.func38 (by kernel_rfl) rfl #[.int .u8 (bt (rdOf ByteArray.empty l0 x5_1) x7_2)] rfl (by (try simp only [List.map_toArray, List.map_cons, List.map_nil]); first | done | rfl | (simp only [List.length_drop, List.length_take]; rfl)) ?_; (with_reducible refine (spec_isDigit.calls (bt (rdOf ByteArray.empty l0 x5_1) x7_2) false _ A8.out).mono ?_); rintro e w' ⟨rfl, ⟨nd, rfl⟩⟩; refine ⟨_, rfl, ?_⟩; have p10 : 0 ≤ (x7_2 : Int) := of_decide_eq_true (by first | (with_reducible assumption) | assumption); have q10 : x7_2 < ((rdOf ByteArray.empty l0 x5_1).size : Int) := of_decide_eq_true (by first | (with_reducible assumption) | assumption); have hx10 := bt_at (rdOf ByteArray.empty l0 x5_1) x7_2; replace p10 := eq_true p10; replace q10 := eq_true q10) | (go_at_call 73; (with_reducible refine (spec_isLetter.calls (bt (rdOf ByteArray.empty l0 x5_1) x7_2) true _ A11.out).mono ?_); rintro e w' ⟨rfl, ⟨nd, rfl⟩⟩))
                      go_roundg k2
                      case measure => have := HK1.out; have := HK2.out; omega
                      case rel => exact ⟨(wrap64 (x7_2 + 1)), (by first | rfl | (simp; done) | (simp [*]; done) | (simp [bne_nil_]; done)), H', ⟨by have := HK1.out; have := HK2.out; omega⟩, by repeat (first | exact Drawn0.refl _ | apply Drawn0.step)⟩
                    · replace c12 := Bool.eq_false_iff.mpr c12
                      subst c12
                      have H1 : (if (bt (rdOf ByteArray.empty l0 x5_1) x7_2) = 45 then (spec_pageWords.l1 k2 l0 a1 x5_1 (rdOf ByteArray.empty l0 x5_1) (wrap64 (x7_2 + 1))) else (some false)) = some r := by rw [if_neg (show ¬ (false = true) by decide)] at H; exact H
                      clear H
                      have H := H1
                      clear H1
                      by_cases c14 : (bt (rdOf ByteArray.empty l0 x5_1) x7_2) = 45
                      · rw [if_pos c14] at H
                        have c14b0 : ((bt (rdOf ByteArray.empty l0 x5_1) x7_2) == 45) = true := beq_iff_eq.mpr c14
                        have c14b1 : ((bt (rdOf ByteArray.empty l0 x5_1) x7_2) != 45) = false := bne_eq_false_iff_eq.mpr c14
                        clear c14
                        have H' := Aside0.mk H
                        clear H
                        have p7 : 0 ≤ (x7_2 : Int) := of_decide_eq_true (by first | (with_reducible assumption) | assumption)
                        have q7 : x7_2 < ((rdOf ByteArray.empty l0 x5_1).size : Int) := of_decide_eq_true (by first | (with_reducible assumption) | assumption)
                        have hx7 := bt_at (rdOf ByteArray.empty l0 x5_1) x7_2
                        replace p7 := eq_true p7
                        replace q7 := eq_true q7
                        go_wp2_with (first | ((with_reducible refine gate_callee (f := 38) rfl ?_); refine goesL_ (some 27) rfl rfl Tryz.func38 (by kernel_rfl) rfl #[.int .u8 (bt (rdOf ByteArray.empty l0 x5_1) x7_2)] rfl (by (try simp only [List.map_toArray, List.map_cons, List.map_nil]); first | done | rfl | (simp only [List.length_drop, List.length_take]; rfl)) ?_; (with_reducible refine (spec_isDigit.calls (bt (rdOf ByteArray.empty l0 x5_1) x7_2) false _ A8.out).mono ?_); rintro e w' ⟨rfl, ⟨nd, rfl⟩⟩; refine ⟨_, rfl, ?_⟩; have p10 : 0 ≤ (x7_2 : Int) := of_decide_eq_true (by first | (with_reducible assumption) | assumption); have q10 : x7_2 < ((rdOf ByteArray.empty l0 x5_1).size : Int) := of_decide_eq_true (by first | (with_reducible assumption) | assumption); have hx10 := bt_at (rdOf ByteArray.empty l0 x5_1) x7_2; replace p10 := eq_true p10; replace q10 := eq_true q10) | (go_at_call 73; (with_reducible refine (spec_isLetter.calls (bt (rdOf ByteArray.empty l0 x5_1) x7_2) false _ A11.out).mono ?_); rintro e w' ⟨rfl, ⟨nd, rfl⟩⟩; have p13 : 0 ≤ (x7_2 : Int) := of_decide_eq_true (by first | (with_reducible assumption) | assumption); have q13 : x7_2 < ((rdOf ByteArray.empty l0 x5_1).size : Int) := of_decide_eq_true (by first | (with_reducible assumption) | assumption); have hx13 := bt_at (rdOf ByteArray.empty l0 x5_1) x7_2; replace p13 := eq_true p13; replace q13 := eq_true q13))
                        go_roundg k2
                        case measure => have := HK1.out; have := HK2.out; omega
                        case rel => exact ⟨(wrap64 (x7_2 + 1)), (by first | rfl | (simp; done) | (simp [*]; done) | (simp [bne_nil_]; done)), H', ⟨by have := HK1.out; have := HK2.out; omega⟩, by repeat (first | exact Drawn0.refl _ | apply Drawn0.step)⟩
                      · rw [if_neg c14] at H
                        have c14b0 : ((bt (rdOf ByteArray.empty l0 x5_1) x7_2) == 45) = false := beq_eq_false_iff_ne.mpr c14
                        have c14b1 : ((bt (rdOf ByteArray.empty l0 x5_1) x7_2) != 45) = true := bne_iff_ne.mpr c14
                        obtain rfl := Option.some.inj H
                        have p7 : 0 ≤ (x7_2 : Int) := of_decide_eq_true (by first | (with_reducible assumption) | assumption)
                        have q7 : x7_2 < ((rdOf ByteArray.empty l0 x5_1).size : Int) := of_decide_eq_true (by first | (with_reducible assumption) | assumption)
                        have hx7 := bt_at (rdOf ByteArray.empty l0 x5_1) x7_2
                        replace p7 := eq_true p7
                        replace q7 := eq_true q7
                        go_wp2_with (first | ((with_reducible refine gate_callee (f := 38) rfl ?_); refine goesL_ (some 27) rfl rfl Tryz.func38 (by kernel_rfl) rfl #[.int .u8 (bt (rdOf ByteArray.empty l0 x5_1) x7_2)] rfl (by (try simp only [List.map_toArray, List.map_cons, List.map_nil]); first | done | rfl | (simp only [List.length_drop, List.length_take]; rfl)) ?_; (with_reducible refine (spec_isDigit.calls (bt (rdOf ByteArray.empty l0 x5_1) x7_2) false _ A8.out).mono ?_); rintro e w' ⟨rfl, ⟨nd, rfl⟩⟩; refine ⟨_, rfl, ?_⟩; have p10 : 0 ≤ (x7_2 : Int) := of_decide_eq_true (by first | (with_reducible assumption) | assumption); have q10 : x7_2 < ((rdOf ByteArray.empty l0 x5_1).size : Int) := of_decide_eq_true (by first | (with_reducible assumption) | assumption); have hx10 := bt_at (rdOf ByteArray.empty l0 x5_1) x7_2; replace p10 := eq_true p10; replace q10 := eq_true q10) | (go_at_call 73; (with_reducible refine (spec_isLetter.calls (bt (rdOf ByteArray.empty l0 x5_1) x7_2) false _ A11.out).mono ?_); rintro e w' ⟨rfl, ⟨nd, rfl⟩⟩; have p13 : 0 ≤ (x7_2 : Int) := of_decide_eq_true (by first | (with_reducible assumption) | assumption); have q13 : x7_2 < ((rdOf ByteArray.empty l0 x5_1).size : Int) := of_decide_eq_true (by first | (with_reducible assumption) | assumption); have hx13 := bt_at (rdOf ByteArray.empty l0 x5_1) x7_2; replace p13 := eq_true p13; replace q13 := eq_true q13))
                        go_ret
                        exact ⟨by first | rfl | (simp; done) | (simp [*]; done) | (simp [bne_nil_]; done), by repeat (first | exact Drawn0.refl _ | apply Drawn0.step)⟩
                · rw [if_neg c6] at H
                  exact absurd H (by simp)
              · rw [if_neg c5] at H
                have c5b0 : decide (x7_2 < ((rdOf ByteArray.empty l0 x5_1).size : Int)) = false := decide_eq_false c5
                clear c5
                by_cases c15 : (rdOf ByteArray.empty l0 x5_1).toList = ([] : List UInt8)
                · rw [if_pos c15] at H
                  have c15b0 : ((rdOf ByteArray.empty l0 x5_1).toList == ([] : List UInt8)) = true := beq_iff_eq.mpr c15
                  have c15b1 : ((rdOf ByteArray.empty l0 x5_1).toList != ([] : List UInt8)) = false := bne_eq_false_iff_eq.mpr c15
                  clear c15
                  obtain rfl := Option.some.inj H
                  go_wp2
                  go_ret
                  exact ⟨by first | rfl | (simp; done) | (simp [*]; done) | (simp [bne_nil_]; done), by repeat (first | exact Drawn0.refl _ | apply Drawn0.step)⟩
                · rw [if_neg c15] at H
                  have c15b0 : ((rdOf ByteArray.empty l0 x5_1).toList == ([] : List UInt8)) = false := beq_eq_false_iff_ne.mpr c15
                  have c15b1 : ((rdOf ByteArray.empty l0 x5_1).toList != ([] : List UInt8)) = true := bne_iff_ne.mpr c15
                  by_cases c16 : a1 = true
                  · subst c16
                    have H1 : (if ((rdOf ByteArray.empty l0 x5_1).size : Int) > 1 then (if 0 < ((rdOf ByteArray.empty l0 x5_1).size : Int) then (if (bt (rdOf ByteArray.empty l0 x5_1) 0) = 48 then ((spec_allDigits.f k2 (rdOf ByteArray.empty l0 x5_1)).bind fun t131 => (if t131 = true then (some false) else (spec_pageWords.l0 k2 l0 true (wrap64 (x5_1 + 1))))) else (spec_pageWords.l0 k2 l0 true (wrap64 (x5_1 + 1)))) else (none)) else (spec_pageWords.l0 k2 l0 true (wrap64 (x5_1 + 1)))) = some r := by rw [if_pos rfl] at H; exact H
                    clear H
                    have H := H1
                    clear H1
                    by_cases c17 : ((rdOf ByteArray.empty l0 x5_1).size : Int) > 1
                    · rw [if_pos c17] at H
                      have c17b0 : decide (1 < ((rdOf ByteArray.empty l0 x5_1).size : Int)) = true := decide_eq_true c17
                      have c17b1 : decide (1 < (rdOf ByteArray.empty l0 x5_1).size) = true := decide_eq_true (by omega)
                      clear c17
                      by_cases c18 : 0 < ((rdOf ByteArray.empty l0 x5_1).size : Int)
                      · rw [if_pos c18] at H
                        have c18b0 : decide (0 < ((rdOf ByteArray.empty l0 x5_1).size : Int)) = true := decide_eq_true c18
                        have c18b1 : decide (0 < (rdOf ByteArray.empty l0 x5_1).size) = true := decide_eq_true (by omega)
                        clear c18
                        by_cases c20 : (bt (rdOf ByteArray.empty l0 x5_1) 0) = 48
                        · rw [if_pos c20] at H
                          have c20b0 : ((bt (rdOf ByteArray.empty l0 x5_1) 0) == 48) = true := beq_iff_eq.mpr c20
                          have c20b1 : ((bt (rdOf ByteArray.empty l0 x5_1) 0) != 48) = false := bne_eq_false_iff_eq.mpr c20
                          clear c20
                          replace H := Option.bind_eq_some_iff.mp H
                          obtain ⟨t131, A210, H⟩ := H
                          replace H : (if t131 = true then (some false) else (spec_pageWords.l0 k2 l0 true (wrap64 (x5_1 + 1)))) = some r := H
                          have A21 := Aside0.mk A210
                          clear A210
                          by_cases c22 : t131 = true
                          · subst c22
                            have H1 : (some false) = some r := by rw [if_pos rfl] at H; exact H
                            clear H
                            have H := H1
                            clear H1
                            obtain rfl := Option.some.inj H
                            have p19 : 0 ≤ (0 : Int) := (by omega)
                            have q19 : 0 < (rdOf ByteArray.empty l0 x5_1).size := (by have : (0 : Int) < ((rdOf ByteArray.empty l0 x5_1).size : Int) := of_decide_eq_true (by first | (with_reducible assumption) | assumption); omega)
                            have hx19 : ∀ h : 0 < (rdOf ByteArray.empty l0 x5_1).size, (((rdOf ByteArray.empty l0 x5_1)[0]'h).toNat : Int) = bt (rdOf ByteArray.empty l0 x5_1) 0 := bt_at (rdOf ByteArray.empty l0 x5_1) 0
                            clear p19
                            have qi19 : (0 < ((rdOf ByteArray.empty l0 x5_1).size : Int)) = True := eq_true (of_decide_eq_true (by first | (with_reducible assumption) | assumption))
                            replace q19 := eq_true q19
                            go_wp2_with (first | (go_at_call 53; (with_reducible refine (spec_allDigits.calls k2 (rdOf ByteArray.empty l0 x5_1) true _ A21.out).mono ?_); rintro e w' ⟨rfl, ⟨nd, rfl⟩⟩))
                            go_ret
                            exact ⟨by first | rfl | (simp; done) | (simp [*]; done) | (simp [bne_nil_]; done), by repeat (first | exact Drawn0.refl _ | apply Drawn0.step)⟩
                          · replace c22 := Bool.eq_false_iff.mpr c22
                            subst c22
                            have H1 : (spec_pageWords.l0 k2 l0 true (wrap64 (x5_1 + 1))) = some r := by rw [if_neg (show ¬ (false = true) by decide)] at H; exact H
                            clear H
                            have H := H1
                            clear H1
                            have H' := Aside0.mk H
                            clear H
                            have p19 : 0 ≤ (0 : Int) := (by omega)
                            have q19 : 0 < (rdOf ByteArray.empty l0 x5_1).size := (by have : (0 : Int) < ((rdOf ByteArray.empty l0 x5_1).size : Int) := of_decide_eq_true (by first | (with_reducible assumption) | assumption); omega)
                            have hx19 : ∀ h : 0 < (rdOf ByteArray.empty l0 x5_1).size, (((rdOf ByteArray.empty l0 x5_1)[0]'h).toNat : Int) = bt (rdOf ByteArray.empty l0 x5_1) 0 := bt_at (rdOf ByteArray.empty l0 x5_1) 0
                            clear p19
                            have qi19 : (0 < ((rdOf ByteArray.empty l0 x5_1).size : Int)) = True := eq_true (of_decide_eq_true (by first | (with_reducible assumption) | assumption))
                            replace q19 := eq_true q19
                            go_wp2_with (first | (go_at_call 53; (with_reducible refine (spec_allDigits.calls k2 (rdOf ByteArray.empty l0 x5_1) false _ A21.out).mono ?_); rintro e w' ⟨rfl, ⟨nd, rfl⟩⟩))
                            go_roundg k2
                            case measure => have := HK1.out; have := HK2.out; omega
                            case rel => exact ⟨(wrap64 (x5_1 + 1)), (by first | rfl | (simp; done) | (simp [*]; done) | (simp [bne_nil_]; done)), H', ⟨by have := HK1.out; have := HK2.out; omega⟩, by repeat (first | exact Drawn0.refl _ | apply Drawn0.step)⟩
                        · rw [if_neg c20] at H
                          have c20b0 : ((bt (rdOf ByteArray.empty l0 x5_1) 0) == 48) = false := beq_eq_false_iff_ne.mpr c20
                          have c20b1 : ((bt (rdOf ByteArray.empty l0 x5_1) 0) != 48) = true := bne_iff_ne.mpr c20
                          have H' := Aside0.mk H
                          clear H
                          have p19 : 0 ≤ (0 : Int) := (by omega)
                          have q19 : 0 < (rdOf ByteArray.empty l0 x5_1).size := (by have : (0 : Int) < ((rdOf ByteArray.empty l0 x5_1).size : Int) := of_decide_eq_true (by first | (with_reducible assumption) | assumption); omega)
                          have hx19 : ∀ h : 0 < (rdOf ByteArray.empty l0 x5_1).size, (((rdOf ByteArray.empty l0 x5_1)[0]'h).toNat : Int) = bt (rdOf ByteArray.empty l0 x5_1) 0 := bt_at (rdOf ByteArray.empty l0 x5_1) 0
                          clear p19
                          have qi19 : (0 < ((rdOf ByteArray.empty l0 x5_1).size : Int)) = True := eq_true (of_decide_eq_true (by first | (with_reducible assumption) | assumption))
                          replace q19 := eq_true q19
                          go_wp2
                          go_roundg k2
                          case measure => have := HK1.out; have := HK2.out; omega
                          case rel => exact ⟨(wrap64 (x5_1 + 1)), (by first | rfl | (simp; done) | (simp [*]; done) | (simp [bne_nil_]; done)), H', ⟨by have := HK1.out; have := HK2.out; omega⟩, by repeat (first | exact Drawn0.refl _ | apply Drawn0.step)⟩
                      · rw [if_neg c18] at H
                        exact absurd H (by simp)
                    · rw [if_neg c17] at H
                      have c17b0 : decide (1 < ((rdOf ByteArray.empty l0 x5_1).size : Int)) = false := decide_eq_false c17
                      have c17b1 : decide (1 < (rdOf ByteArray.empty l0 x5_1).size) = false := decide_eq_false (by omega)
                      clear c17
                      have H' := Aside0.mk H
                      clear H
                      go_wp2
                      go_roundg k2
                      case measure => have := HK1.out; have := HK2.out; omega
                      case rel => exact ⟨(wrap64 (x5_1 + 1)), (by first | rfl | (simp; done) | (simp [*]; done) | (simp [bne_nil_]; done)), H', ⟨by have := HK1.out; have := HK2.out; omega⟩, by repeat (first | exact Drawn0.refl _ | apply Drawn0.step)⟩
                  · replace c16 := Bool.eq_false_iff.mpr c16
                    subst c16
                    have H1 : (spec_pageWords.l0 k2 l0 false (wrap64 (x5_1 + 1))) = some r := by rw [if_neg (show ¬ (false = true) by decide)] at H; exact H
                    clear H
                    have H := H1
                    clear H1
                    have H' := Aside0.mk H
                    clear H
                    go_wp2
                    go_roundg k2
                    case measure => have := HK1.out; have := HK2.out; omega
                    case rel => exact ⟨(wrap64 (x5_1 + 1)), (by first | rfl | (simp; done) | (simp [*]; done) | (simp [bne_nil_]; done)), H', ⟨by have := HK1.out; have := HK2.out; omega⟩, by repeat (first | exact Drawn0.refl _ | apply Drawn0.step)⟩
        · rw [if_neg c4] at H
          exact absurd H (by simp)
      · rw [if_neg c3] at H
        have c3b0 : decide (x5_1 < (l0.length : Int)) = false := decide_eq_false c3
        clear c3
        by_cases c23 : a1 = true
        · subst c23
          have H1 : ((spec_IdentifiersKnown.f k1 l0).bind fun t129 => (some t129)) = some r := by rw [if_pos rfl] at H; exact H
          clear H
          have H := H1
          clear H1
          replace H := Option.bind_eq_some_iff.mp H
          obtain ⟨t129, A240, H⟩ := H
          replace H : (some t129) = some r := H
          have A24 := Aside0.mk A240
          clear A240
          obtain rfl := Option.some.inj H
          go_wp2_with (first | (go_at_call 74; (with_reducible refine (spec_IdentifiersKnown.calls k1 _ _ l0 t129 _ ?side1 ?side2 A24.out).mono ?_); (case side1 => repeat (first | exact HR0.out | (with_reducible refine Kd.C_alloc ?_ _) | (with_reducible refine Kd.C_drewN ?_ _) | (with_reducible refine Kd.C_drew ?_))); (case side2 => exact HC0.out); rintro e w' ⟨rfl, ⟨nd, rfl⟩⟩))
          go_ret
          exact ⟨by first | rfl | (simp; done) | (simp [*]; done) | (simp [bne_nil_]; done), by repeat (first | exact Drawn0.refl _ | apply Drawn0.step)⟩
        · replace c23 := Bool.eq_false_iff.mpr c23
          subst c23
          have H1 : (some true) = some r := by rw [if_neg (show ¬ (false = true) by decide)] at H; exact H
          clear H
          have H := H1
          clear H1
          obtain rfl := Option.some.inj H
          go_wp2
          go_ret
          exact ⟨by first | rfl | (simp; done) | (simp [*]; done) | (simp [bne_nil_]; done), by repeat (first | exact Drawn0.refl _ | apply Drawn0.step)⟩

end Go.Proofs.YtdliagehkiihpaaGreatDoor.QU
