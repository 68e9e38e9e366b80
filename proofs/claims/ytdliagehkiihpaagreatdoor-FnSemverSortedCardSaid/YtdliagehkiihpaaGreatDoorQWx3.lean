-- Written by a working copy of the kit's print program, turned at a few places by wip/tool/mkprint.py. Lean checks it.
import Derived.Test.YtdliagehkiihpaaGreatDoorQWx0
import Derived.Test.YtdliagehkiihpaaGreatDoorQWx1
import Derived.Test.YtdliagehkiihpaaGreatDoorQWx2
namespace Go.Proofs.YtdliagehkiihpaaGreatDoor.QW
open Go.RowKit Go.Proofs.YtdliagehkiihpaaGreatDoorW.PrintWords Go.Proofs.YtdliagehkiihpaaGreatDoorW.PrintLast Go.Proofs.YtdliagehkiihpaaGreatDoorW.PrintMore
attribute [local go_sem] max2_int min2_int max_two min_two max_three min_three max_four min_four   -- for this text's walks alone
set_option linter.unusedVariables false
set_option linter.unusedSimpArgs false

attribute [local go_sem high] eqA64
/-! ### spec_IntOK: function 57 -/
def spec_IntOK.f (k : Nat) (a0_0 : Bool) (a0_1 : ByteArray) : Option (Bool) := (spec_numTidy.f k a0_0 a0_1).bind fun bt143 => (some (bt143.1 == a0_0 && (bt143.2.toList == a0_1.toList)))
theorem spec_IntOK.mono : ∀ a0 a1 k, LeO (spec_IntOK.f k a0 a1) (spec_IntOK.f (k + 1) a0 a1) := by
  intro a0 a1 k
  unfold spec_IntOK.f
  repeat' first
      | (with_reducible exact spec_numTidy.mono _ _ _)
      | (with_reducible exact LeO.refl _)
      | (with_reducible exact LeO.none _)
      | (with_reducible refine LeO.ite ?_ ?_)
      | (with_reducible refine LeO.bind ?_ (fun _ => ?_))
      | exact spec_numTidy.mono _ _ _
      | exact LeO.none _
      | refine LeO.ite ?_ ?_
      | refine LeO.bind ?_ (fun _ => ?_)
set_option maxHeartbeats 8000000 in
set_option maxRecDepth 100000 in
theorem spec_IntOK.calls (k : Nat) (a0_0 : Bool) (a0_1 : ByteArray) (r : Bool) (w : World) (h : spec_IntOK.f k a0_0 a0_1 = some r) :
    Calls Tryz.prog 57 #[.agg #[.bool a0_0, .string a0_1]] w fun e w' => e = .returned (.bool r) ∧ Below w.heap.size w w' := by
  have hu64 := Tryz.underlying64
  have HB := Aside0.mk (Below.refl w.heap.size w)
  have H : ((spec_numTidy.f k a0_0 a0_1).bind fun bt143 => (some (bt143.1 == a0_0 && (bt143.2.toList == a0_1.toList)))) = some r := h
  clear h
  replace H := Option.bind_eq_some_iff.mp H
  obtain ⟨⟨t143, t144⟩, A20, H⟩ := H
  replace H : (some (t143 == a0_0 && (t144.toList == a0_1.toList))) = some r := H
  have A2 := Aside0.mk A20
  clear A20
  obtain rfl := Option.some.inj H
  go_enter Tryz.func57, Tryz.ntmps57
  try go_wp2_with (first | ((with_reducible refine gate_dst (N := 1) rfl ?_); refine box_event ?hg (N := 1) ?hd (cs := #[.bool a0_0, .string a0_1]) (t := 64) ?hr ?_; (case hd => rfl); (case hg => rfl); (case hr => first | (go_simp; done) | (go_simp; rfl)); intro gb142 hg w3 hbox hb; have n0_ := Aside0.mk (below_step (by repeat (first | (with_reducible first | exact HB.out | apply below_alloc | apply pw_below_drewN | apply below_drew1) | exact HB.out)) hb); have n1_ := Aside0.mk (hbox); have n2_ := Aside0.mk ((by rw [hg]; exact (below_size (by repeat (first | (with_reducible first | exact HB.out | apply below_alloc | apply pw_below_drewN | apply below_drew1) | exact HB.out))) : w.heap.size ≤ gb142)); have n3_ := Aside0.mk ((by rw [hg]; exact (below_size (by repeat (first | (with_reducible first | exact HB.out | apply below_alloc | apply pw_below_drewN | apply below_drew1) | exact HB.out))) : w.heap.size ≤ gb142)); clear HB; have HB := n0_; have BK142 := n1_; have GW142 := n2_; have GE142 := n3_; clear n0_ n1_ n2_ n3_; clear hb hbox hg))
  have n0_ := Aside0.mk (blk_drew BK142.out)
  have n1_ := Aside0.mk (below_drew1 HB.out)
  clear BK142
  clear HB
  have BK142 := n0_
  have HB := n1_
  clear n0_ n1_
  refine start_ (n := 5) (S := fun w' => w'.cell? ⟨gb142, 0, none⟩ = some (.bool a0_0) ∧ w'.cell? ⟨gb142, 1, none⟩ = some (.string a0_1)) (ds := []) #[false, false, false, false, false] (by kernel_rfl) rfl rfl ⟨(blk_cell BK142.out 0).trans rfl, (blk_cell BK142.out 1).trans rfl⟩ (fun hHeld => ?_)
  generalize w3.drew = w4 at BK142 HB hHeld ⊢
  refine take_ (i := 0) (N := some 3) (v := ?_) (a' := ?_) #[true, false, false, false, false] rfl rfl (by kernel_rfl) (fun _ _ _ h => h) (Or.inl ⟨by rfl, ?_⟩) hHeld ?_ ?_
  rotate_left
  · rintro w' ⟨s0, s1⟩
    go_simp
    with_reducible rfl
  rotate_left
  · simp only [Act.put, List.setIfInBounds_toArray, List.set_cons_zero, List.set_cons_succ, i64_w, i32_w]
    rfl
  refine take_ (i := 2) (N := some 5) (v := ?_) (a' := ?_) #[true, false, true, false, false] rfl rfl (by kernel_rfl) (fun _ _ _ h => h) (Or.inl ⟨by rfl, ?_⟩) hHeld ?_ ?_
  rotate_left
  · rintro w' ⟨s0, s1⟩
    go_simp
    with_reducible rfl
  rotate_left
  · simp only [Act.put, List.setIfInBounds_toArray, List.set_cons_zero, List.set_cons_succ, i64_w, i32_w]
    rfl
  refine one_ (i := 1) (N := some 4) #[true, true, true, false, false] rfl rfl (by kernel_rfl) (by decide) (fun K hK => ?_)
  refine goes_ Tryz.func77 (by kernel_rfl) rfl #[.agg #[.bool a0_0, .string a0_1]] (by rfl) rfl rfl (by (try simp only [List.map_toArray, List.map_cons, List.map_nil]); first | done | rfl | (simp only [List.length_drop, List.length_take]; rfl)) ?_
  with_reducible refine (spec_numTidy.calls k a0_0 a0_1 t143 t144 _ A2.out).mono ?_
  rintro e w5 ⟨rfl, hb⟩
  refine ⟨_, rfl, ?_⟩
  have n0_ := Aside0.mk (blk_below (g := gb142) (o := .cells #[.bool a0_0, .string a0_1] 64 (0, 0)) (by (with_reducible repeat (first | refine blk_drewN ?_ _ | refine blk_drew ?_ | refine blk_alloc ?_ _)); exact BK142.out) hb)
  have n1_ := Aside0.mk (below_step (by repeat (first | (with_reducible first | exact HB.out | apply below_alloc | apply pw_below_drewN | apply below_drew1 | refine below_set ?_ GE142.out) | exact HB.out)) hb)
  clear BK142
  clear HB
  have BK142 := n0_
  have HB := n1_
  clear n0_ n1_
  (try clear hb)
  (try clear hb2)
  (try clear hk)
  (try clear hi)
  refine hK.out _ _ ⟨(blk_cell BK142.out 0).trans rfl, (blk_cell BK142.out 1).trans rfl⟩ (fun hHeld => ?_)
  clear hK K
  refine norm_ (a' := ?_) ?_ ?_
  rotate_left
  · show Act.put _ (some 4) _ = _
    simp only [Act.put, List.setIfInBounds_toArray, List.set_cons_zero, List.set_cons_succ, i64_w, i32_w]
    rfl
  refine pure_ (i := 3) (N := some 6) (v := ?_) (a' := ?_) #[true, true, true, true, false] rfl rfl (by kernel_rfl) (fun _ _ _ h => h) (Or.inl ⟨by rfl, ?_⟩) ?_ ?_
  rotate_left
  · intro w'
    go_simp
    with_reducible rfl
  rotate_left
  · simp only [Act.put, List.setIfInBounds_toArray, List.set_cons_zero, List.set_cons_succ, i64_w, i32_w]
    rfl
  refine pure_ (i := 4) (N := some 2) (v := ?_) (a' := ?_) #[true, true, true, true, true] rfl rfl (by kernel_rfl) (fun _ _ _ h => h) (Or.inl ⟨by rfl, ?_⟩) ?_ ?_
  rotate_left
  · intro w'
    go_simp
    with_reducible rfl
  rotate_left
  · simp only [Act.put, List.setIfInBounds_toArray, List.set_cons_zero, List.set_cons_succ, i64_w, i32_w]
    rfl
  refine done_ (by kernel_rfl) ?_
  try go_wp2
  go_ret
  exact ⟨by first | rfl | (simp [errW_none, errW_some] <;> rfl) | (simp [*, errW_none, errW_some] <;> rfl) | (simp [bne_nil_]; done), by repeat (first | (with_reducible first | exact HB.out | apply below_alloc | apply pw_below_drewN | apply below_drew1 | refine below_set ?_ GE142.out) | exact HB.out)⟩

/-! ### laws_numbers: function 36 -/
def laws_numbers.l0 : Nat → List (S64) → List (S64) → Int → Int → Option (Bool)
  | 0, _, _, _, _ => none
  | k + 1, x0, x5, x6, x7 => if x7 < x6 then (if 0 ≤ x7 then (if x7 < (x5.length : Int) then ((spec_IntOK.f k ((rd_T64 x5 x7).f0) ((rd_T64 x5 x7).f1)).bind fun t147 => (if t147 = true then (if (((rd_T64 x5 x7).f1).size : Int) > 1500 then (some false) else (laws_numbers.l0 k x0 x5 x6 (wrap64 (x7 + 1)))) else (some false))) else (none)) else (none)) else (some (decide ((x0.length : Int) ≤ 150)))
def laws_numbers.f (k : Nat) (l0 : List (S64)) : Option (Bool) := laws_numbers.l0 k l0 l0 (l0.length : Int) 0
theorem laws_numbers.mono_l : ∀ k, (∀ y0 y1 y2 y3, LeO (laws_numbers.l0 k y0 y1 y2 y3) (laws_numbers.l0 (k + 1) y0 y1 y2 y3))
  | 0 => fun _ _ _ _ r h => by simp [laws_numbers.l0] at h
  | k + 1 => by
    have ih0 := laws_numbers.mono_l k
    · intro y0 y1 y2 y3
      unfold laws_numbers.l0
      repeat' first
      | (with_reducible exact ih0 _ _ _ _)
      | (with_reducible exact spec_IntOK.mono _ _ _)
      | (with_reducible exact LeO.refl _)
      | (with_reducible exact LeO.none _)
      | (with_reducible refine LeO.ite ?_ ?_)
      | (with_reducible refine LeO.bind ?_ (fun _ => ?_))
      | exact ih0 _ _ _ _
      | exact spec_IntOK.mono _ _ _
      | exact LeO.none _
      | refine LeO.ite ?_ ?_
      | refine LeO.bind ?_ (fun _ => ?_)
theorem laws_numbers.mono : ∀ a0 k, LeO (laws_numbers.f k a0) (laws_numbers.f (k + 1) a0) := by
  intro a0 k
  have ih0 := laws_numbers.mono_l k
  unfold laws_numbers.f
  repeat' first
      | (with_reducible exact ih0 _ _ _ _)
      | (with_reducible exact spec_IntOK.mono _ _ _)
      | (with_reducible exact LeO.refl _)
      | (with_reducible exact LeO.none _)
      | (with_reducible refine LeO.ite ?_ ?_)
      | (with_reducible refine LeO.bind ?_ (fun _ => ?_))
      | exact ih0 _ _ _ _
      | exact spec_IntOK.mono _ _ _
      | exact LeO.none _
      | refine LeO.ite ?_ ?_
      | refine LeO.bind ?_ (fun _ => ?_)
set_option maxHeartbeats 8000000 in
set_option maxRecDepth 100000 in
theorem laws_numbers.calls (k : Nat) (A0 : Option Addr) (c0 : Nat) (l0 : List (S64)) (r : Bool) (w : World) (hr0 : Kd.C k64 w A0 l0.length l0) (hc0 : l0.length ≤ c0) (h : laws_numbers.f k l0 = some r) :
    Calls Tryz.prog 36 #[.slice A0 l0.length c0] w fun e w' => e = .returned (.bool r) ∧ Below w.heap.size w w' := by
  have hu64 := Tryz.underlying64
  have HR0 := Aside0.mk hr0
  have HC0 := Aside0.mk hc0
  clear hr0 hc0
  have HB := Aside0.mk (Below.refl w.heap.size w)
  have H : (laws_numbers.l0 k l0 l0 (l0.length : Int) 0) = some r := h
  clear h
  have H' := Aside0.mk H
  clear H
  go_enter Tryz.func36, Tryz.ntmps36
  go_wp2
  go_loopg [7] k (fun kq v7 w' => ∃ (x7_1 : Int), v7 = .int .i64 x7_1 ∧ Aside0 (laws_numbers.l0 kq l0 l0 (l0.length : Int) x7_1 = some r) ∧ Aside0 (kq ≤ k) ∧ Aside0 (Below w.heap.size w w'))
  case atStart => exact ⟨(0), (by first | rfl | (simp; done) | (simp [*]; done) | (simp [bne_nil_]; done)), H', ⟨Nat.le_refl _⟩, ⟨by repeat (first | (with_reducible first | exact HB.out | apply below_alloc | apply pw_below_drewN | apply below_drew1) | exact HB.out)⟩⟩
  case round =>
    clear H'
    obtain ⟨x7_1, rfl, HA, HK1, HB⟩ := hrel
    cases gk with
    | zero => exact absurd HA.out (by simp [laws_numbers.l0])
    | succ k1 =>
      have H := HA.out
      clear HA
      simp only [laws_numbers.l0] at H
      by_cases c2 : x7_1 < (l0.length : Int)
      · rw [if_pos c2] at H
        have c2b0 : decide (x7_1 < (l0.length : Int)) = true := decide_eq_true c2
        clear c2
        by_cases c3 : 0 ≤ x7_1
        · rw [if_pos c3] at H
          have c3b0 : decide (0 ≤ x7_1) = true := decide_eq_true c3
          clear c3
          by_cases c4 : x7_1 < (l0.length : Int)
          · rw [if_pos c4] at H
            have c4b0 : decide (x7_1 < (l0.length : Int)) = true := decide_eq_true c4
            clear c4
            replace H := Option.bind_eq_some_iff.mp H
            obtain ⟨t147, A50, H⟩ := H
            replace H : (if t147 = true then (if (((rd_T64 l0 x7_1).f1).size : Int) > 1500 then (some false) else (laws_numbers.l0 k1 l0 l0 (l0.length : Int) (wrap64 (x7_1 + 1)))) else (some false)) = some r := H
            have A5 := Aside0.mk A50
            clear A50
            by_cases c6 : t147 = true
            · subst c6
              have H1 : (if (((rd_T64 l0 x7_1).f1).size : Int) > 1500 then (some false) else (laws_numbers.l0 k1 l0 l0 (l0.length : Int) (wrap64 (x7_1 + 1)))) = some r := by rw [if_pos rfl] at H; exact H
              clear H
              have H := H1
              clear H1
              by_cases c7 : (((rd_T64 l0 x7_1).f1).size : Int) > 1500
              · rw [if_pos c7] at H
                have c7b0 : decide (1500 < (((rd_T64 l0 x7_1).f1).size : Int)) = true := decide_eq_true c7
                have c7b1 : decide (1500 < ((rd_T64 l0 x7_1).f1).size) = true := decide_eq_true (by omega)
                clear c7
                obtain rfl := Option.some.inj H
                have p145 : 0 ≤ (x7_1 : Int) := of_decide_eq_true (by first | (with_reducible assumption) | assumption)
                have q145 : x7_1 < (l0.length : Int) := of_decide_eq_true (by first | (with_reducible assumption) | assumption)
                obtain ⟨ad145, e145, hx145_0, hx145_1⟩ := at_T64 HR0.out x7_1 p145 q145
                cases e145
                replace hx145_0 := (HB.out.cell (World.block_lt_of_cell? w _ hx145_0)).trans hx145_0
                replace hx145_1 := (HB.out.cell (World.block_lt_of_cell? w _ hx145_1)).trans hx145_1
                replace p145 := eq_true p145
                replace q145 := eq_true q145
                go_wp2_with (first | ((with_reducible refine gate_dst (N := 4) rfl ?_); (try (refine gate_guard (by rfl) ?_; dsimp only)); refine box_event ?hg (N := 4) ?hd (cs := #[.bool false, .string (⟨#[]⟩ : ByteArray)]) (t := 64) ?hr ?_; (case hd => rfl); (case hg => rfl); (case hr => first | (go_simp; done) | (go_simp; rfl)); intro gb146 hg w8 hbox hb; have n0_ := Aside0.mk (below_step (by repeat (first | (with_reducible first | exact HB.out | apply below_alloc | apply pw_below_drewN | apply below_drew1) | exact HB.out)) hb); have n1_ := Aside0.mk (hbox); have n2_ := Aside0.mk ((by rw [hg]; exact (below_size (by repeat (first | (with_reducible first | exact HB.out | apply below_alloc | apply pw_below_drewN | apply below_drew1) | exact HB.out))) : w.heap.size ≤ gb146)); have n3_ := Aside0.mk ((by rw [hg]; exact (below_size (by repeat (first | (with_reducible first | exact HB.out | apply below_alloc | apply pw_below_drewN | apply below_drew1) | exact HB.out))) : w.heap.size ≤ gb146)); clear HB; have HB := n0_; have BK146 := n1_; have GW146 := n2_; have GE146 := n3_; clear n0_ n1_ n2_ n3_; clear hb hbox hg; have hcz9_0 : w8.cell? ⟨gb146, 0, none⟩ = some (.bool false) := (blk_cell BK146.out 0).trans rfl; have hcz9_1 : w8.cell? ⟨gb146, 1, none⟩ = some (.string (⟨#[]⟩ : ByteArray)) := (blk_cell BK146.out 1).trans rfl; have hfz9_0 := blk_frozen BK146.out 0; have hfz9_1 := blk_frozen BK146.out 1) | ((with_reducible refine gate_callee (f := 57) rfl ?_); refine goesL_ (some 12) rfl rfl Tryz.func57 (by kernel_rfl) rfl #[.agg #[.bool ((rd_T64 l0 x7_1).f0), .string ((rd_T64 l0 x7_1).f1)]] rfl (by (try simp only [List.map_toArray, List.map_cons, List.map_nil]); first | done | rfl | (simp only [List.length_drop, List.length_take]; rfl)) ?_; (with_reducible refine (spec_IntOK.calls k1 ((rd_T64 l0 x7_1).f0) ((rd_T64 l0 x7_1).f1) true _ A5.out).mono ?_); rintro e w10 ⟨rfl, hb⟩; refine ⟨_, rfl, ?_⟩; have n0_ := Aside0.mk (blk_below (g := gb146) (o := .cells #[.bool ((rd_T64 l0 x7_1).f0), .string ((rd_T64 l0 x7_1).f1)] 64 (0, 0)) (by (with_reducible repeat (first | refine blk_drewN ?_ _ | refine blk_drew ?_ | refine blk_alloc ?_ _)); refine blk_put (cs := #[.bool ((rd_T64 l0 x7_1).f0), .string (⟨#[]⟩ : ByteArray)]) ?_ 1 _ rfl; (with_reducible repeat (first | refine blk_drewN ?_ _ | refine blk_drew ?_ | refine blk_alloc ?_ _)); refine blk_put (cs := #[.bool false, .string (⟨#[]⟩ : ByteArray)]) ?_ 0 _ rfl; (with_reducible repeat (first | refine blk_drewN ?_ _ | refine blk_drew ?_ | refine blk_alloc ?_ _)); exact BK146.out) hb); have n1_ := Aside0.mk (below_step (by repeat (first | (with_reducible first | exact HB.out | apply below_alloc | apply pw_below_drewN | apply below_drew1 | refine below_set ?_ GE146.out) | exact HB.out)) hb); clear BK146; clear HB; have BK146 := n0_; have HB := n1_; clear n0_ n1_; (try clear hb); (try clear hb2); (try clear hk); (try clear hi); have hcz11_0 : w10.cell? ⟨gb146, 0, none⟩ = some (.bool ((rd_T64 l0 x7_1).f0)) := (blk_cell BK146.out 0).trans rfl; have hcz11_1 : w10.cell? ⟨gb146, 1, none⟩ = some (.string ((rd_T64 l0 x7_1).f1)) := (blk_cell BK146.out 1).trans rfl; have hfz11_0 := blk_frozen BK146.out 0; have hfz11_1 := blk_frozen BK146.out 1))
                go_ret
                exact ⟨by first | rfl | (simp [errW_none, errW_some] <;> rfl) | (simp [*, errW_none, errW_some] <;> rfl) | (simp [bne_nil_]; done), by repeat (first | (with_reducible first | exact HB.out | apply below_alloc | apply pw_below_drewN | apply below_drew1 | refine below_set ?_ GE146.out) | exact HB.out)⟩
              · rw [if_neg c7] at H
                have c7b0 : decide (1500 < (((rd_T64 l0 x7_1).f1).size : Int)) = false := decide_eq_false c7
                have c7b1 : decide (1500 < ((rd_T64 l0 x7_1).f1).size) = false := decide_eq_false (by omega)
                clear c7
                have H' := Aside0.mk H
                clear H
                have p145 : 0 ≤ (x7_1 : Int) := of_decide_eq_true (by first | (with_reducible assumption) | assumption)
                have q145 : x7_1 < (l0.length : Int) := of_decide_eq_true (by first | (with_reducible assumption) | assumption)
                obtain ⟨ad145, e145, hx145_0, hx145_1⟩ := at_T64 HR0.out x7_1 p145 q145
                cases e145
                replace hx145_0 := (HB.out.cell (World.block_lt_of_cell? w _ hx145_0)).trans hx145_0
                replace hx145_1 := (HB.out.cell (World.block_lt_of_cell? w _ hx145_1)).trans hx145_1
                replace p145 := eq_true p145
                replace q145 := eq_true q145
                go_wp2_with (first | ((with_reducible refine gate_dst (N := 4) rfl ?_); (try (refine gate_guard (by rfl) ?_; dsimp only)); refine box_event ?hg (N := 4) ?hd (cs := #[.bool false, .string (⟨#[]⟩ : ByteArray)]) (t := 64) ?hr ?_; (case hd => rfl); (case hg => rfl); (case hr => first | (go_simp; done) | (go_simp; rfl)); intro gb146 hg w12 hbox hb; have n0_ := Aside0.mk (below_step (by repeat (first | (with_reducible first | exact HB.out | apply below_alloc | apply pw_below_drewN | apply below_drew1) | exact HB.out)) hb); have n1_ := Aside0.mk (hbox); have n2_ := Aside0.mk ((by rw [hg]; exact (below_size (by repeat (first | (with_reducible first | exact HB.out | apply below_alloc | apply pw_below_drewN | apply below_drew1) | exact HB.out))) : w.heap.size ≤ gb146)); have n3_ := Aside0.mk ((by rw [hg]; exact (below_size (by repeat (first | (with_reducible first | exact HB.out | apply below_alloc | apply pw_below_drewN | apply below_drew1) | exact HB.out))) : w.heap.size ≤ gb146)); clear HB; have HB := n0_; have BK146 := n1_; have GW146 := n2_; have GE146 := n3_; clear n0_ n1_ n2_ n3_; clear hb hbox hg; have hcz13_0 : w12.cell? ⟨gb146, 0, none⟩ = some (.bool false) := (blk_cell BK146.out 0).trans rfl; have hcz13_1 : w12.cell? ⟨gb146, 1, none⟩ = some (.string (⟨#[]⟩ : ByteArray)) := (blk_cell BK146.out 1).trans rfl; have hfz13_0 := blk_frozen BK146.out 0; have hfz13_1 := blk_frozen BK146.out 1) | ((with_reducible refine gate_callee (f := 57) rfl ?_); refine goesL_ (some 12) rfl rfl Tryz.func57 (by kernel_rfl) rfl #[.agg #[.bool ((rd_T64 l0 x7_1).f0), .string ((rd_T64 l0 x7_1).f1)]] rfl (by (try simp only [List.map_toArray, List.map_cons, List.map_nil]); first | done | rfl | (simp only [List.length_drop, List.length_take]; rfl)) ?_; (with_reducible refine (spec_IntOK.calls k1 ((rd_T64 l0 x7_1).f0) ((rd_T64 l0 x7_1).f1) true _ A5.out).mono ?_); rintro e w14 ⟨rfl, hb⟩; refine ⟨_, rfl, ?_⟩; have n0_ := Aside0.mk (blk_below (g := gb146) (o := .cells #[.bool ((rd_T64 l0 x7_1).f0), .string ((rd_T64 l0 x7_1).f1)] 64 (0, 0)) (by (with_reducible repeat (first | refine blk_drewN ?_ _ | refine blk_drew ?_ | refine blk_alloc ?_ _)); refine blk_put (cs := #[.bool ((rd_T64 l0 x7_1).f0), .string (⟨#[]⟩ : ByteArray)]) ?_ 1 _ rfl; (with_reducible repeat (first | refine blk_drewN ?_ _ | refine blk_drew ?_ | refine blk_alloc ?_ _)); refine blk_put (cs := #[.bool false, .string (⟨#[]⟩ : ByteArray)]) ?_ 0 _ rfl; (with_reducible repeat (first | refine blk_drewN ?_ _ | refine blk_drew ?_ | refine blk_alloc ?_ _)); exact BK146.out) hb); have n1_ := Aside0.mk (below_step (by repeat (first | (with_reducible first | exact HB.out | apply below_alloc | apply pw_below_drewN | apply below_drew1 | refine below_set ?_ GE146.out) | exact HB.out)) hb); clear BK146; clear HB; have BK146 := n0_; have HB := n1_; clear n0_ n1_; (try clear hb); (try clear hb2); (try clear hk); (try clear hi); have hcz15_0 : w14.cell? ⟨gb146, 0, none⟩ = some (.bool ((rd_T64 l0 x7_1).f0)) := (blk_cell BK146.out 0).trans rfl; have hcz15_1 : w14.cell? ⟨gb146, 1, none⟩ = some (.string ((rd_T64 l0 x7_1).f1)) := (blk_cell BK146.out 1).trans rfl; have hfz15_0 := blk_frozen BK146.out 0; have hfz15_1 := blk_frozen BK146.out 1))
                go_roundg k1
                case measure => have := HK1.out; omega
                case rel => exact ⟨(wrap64 (x7_1 + 1)), (by first | rfl | (simp; done) | (simp [*]; done) | (simp [bne_nil_]; done)), H', ⟨by have := HK1.out; omega⟩, ⟨by repeat (first | (with_reducible first | exact HB.out | apply below_alloc | apply pw_below_drewN | apply below_drew1 | refine below_set ?_ GE146.out) | exact HB.out)⟩⟩
            · replace c6 := Bool.eq_false_iff.mpr c6
              subst c6
              have H1 : (some false) = some r := by rw [if_neg (show ¬ (false = true) by decide)] at H; exact H
              clear H
              have H := H1
              clear H1
              obtain rfl := Option.some.inj H
              have p145 : 0 ≤ (x7_1 : Int) := of_decide_eq_true (by first | (with_reducible assumption) | assumption)
              have q145 : x7_1 < (l0.length : Int) := of_decide_eq_true (by first | (with_reducible assumption) | assumption)
              obtain ⟨ad145, e145, hx145_0, hx145_1⟩ := at_T64 HR0.out x7_1 p145 q145
              cases e145
              replace hx145_0 := (HB.out.cell (World.block_lt_of_cell? w _ hx145_0)).trans hx145_0
              replace hx145_1 := (HB.out.cell (World.block_lt_of_cell? w _ hx145_1)).trans hx145_1
              replace p145 := eq_true p145
              replace q145 := eq_true q145
              go_wp2_with (first | ((with_reducible refine gate_dst (N := 4) rfl ?_); (try (refine gate_guard (by rfl) ?_; dsimp only)); refine box_event ?hg (N := 4) ?hd (cs := #[.bool false, .string (⟨#[]⟩ : ByteArray)]) (t := 64) ?hr ?_; (case hd => rfl); (case hg => rfl); (case hr => first | (go_simp; done) | (go_simp; rfl)); intro gb146 hg w16 hbox hb; have n0_ := Aside0.mk (below_step (by repeat (first | (with_reducible first | exact HB.out | apply below_alloc | apply pw_below_drewN | apply below_drew1) | exact HB.out)) hb); have n1_ := Aside0.mk (hbox); have n2_ := Aside0.mk ((by rw [hg]; exact (below_size (by repeat (first | (with_reducible first | exact HB.out | apply below_alloc | apply pw_below_drewN | apply below_drew1) | exact HB.out))) : w.heap.size ≤ gb146)); have n3_ := Aside0.mk ((by rw [hg]; exact (below_size (by repeat (first | (with_reducible first | exact HB.out | apply below_alloc | apply pw_below_drewN | apply below_drew1) | exact HB.out))) : w.heap.size ≤ gb146)); clear HB; have HB := n0_; have BK146 := n1_; have GW146 := n2_; have GE146 := n3_; clear n0_ n1_ n2_ n3_; clear hb hbox hg; have hcz17_0 : w16.cell? ⟨gb146, 0, none⟩ = some (.bool false) := (blk_cell BK146.out 0).trans rfl; have hcz17_1 : w16.cell? ⟨gb146, 1, none⟩ = some (.string (⟨#[]⟩ : ByteArray)) := (blk_cell BK146.out 1).trans rfl; have hfz17_0 := blk_frozen BK146.out 0; have hfz17_1 := blk_frozen BK146.out 1) | ((with_reducible refine gate_callee (f := 57) rfl ?_); refine goesL_ (some 12) rfl rfl Tryz.func57 (by kernel_rfl) rfl #[.agg #[.bool ((rd_T64 l0 x7_1).f0), .string ((rd_T64 l0 x7_1).f1)]] rfl (by (try simp only [List.map_toArray, List.map_cons, List.map_nil]); first | done | rfl | (simp only [List.length_drop, List.length_take]; rfl)) ?_; (with_reducible refine (spec_IntOK.calls k1 ((rd_T64 l0 x7_1).f0) ((rd_T64 l0 x7_1).f1) false _ A5.out).mono ?_); rintro e w18 ⟨rfl, hb⟩; refine ⟨_, rfl, ?_⟩; have n0_ := Aside0.mk (blk_below (g := gb146) (o := .cells #[.bool ((rd_T64 l0 x7_1).f0), .string ((rd_T64 l0 x7_1).f1)] 64 (0, 0)) (by (with_reducible repeat (first | refine blk_drewN ?_ _ | refine blk_drew ?_ | refine blk_alloc ?_ _)); refine blk_put (cs := #[.bool ((rd_T64 l0 x7_1).f0), .string (⟨#[]⟩ : ByteArray)]) ?_ 1 _ rfl; (with_reducible repeat (first | refine blk_drewN ?_ _ | refine blk_drew ?_ | refine blk_alloc ?_ _)); refine blk_put (cs := #[.bool false, .string (⟨#[]⟩ : ByteArray)]) ?_ 0 _ rfl; (with_reducible repeat (first | refine blk_drewN ?_ _ | refine blk_drew ?_ | refine blk_alloc ?_ _)); exact BK146.out) hb); have n1_ := Aside0.mk (below_step (by repeat (first | (with_reducible first | exact HB.out | apply below_alloc | apply pw_below_drewN | apply below_drew1 | refine below_set ?_ GE146.out) | exact HB.out)) hb); clear BK146; clear HB; have BK146 := n0_; have HB := n1_; clear n0_ n1_; (try clear hb); (try clear hb2); (try clear hk); (try clear hi)))
              go_ret
              exact ⟨by first | rfl | (simp [errW_none, errW_some] <;> rfl) | (simp [*, errW_none, errW_some] <;> rfl) | (simp [bne_nil_]; done), by repeat (first | (with_reducible first | exact HB.out | apply below_alloc | apply pw_below_drewN | apply below_drew1 | refine below_set ?_ GE146.out) | exact HB.out)⟩
          · rw [if_neg c4] at H
            exact absurd H (by simp)
        · rw [if_neg c3] at H
          exact absurd H (by simp)
      · rw [if_neg c2] at H
        have c2b0 : decide (x7_1 < (l0.length : Int)) = false := decide_eq_false c2
        clear c2
        obtain rfl := Option.some.inj H
        go_wp2
        go_ret
        exact ⟨by first | rfl | (simp [errW_none, errW_some] <;> rfl) | (simp [*, errW_none, errW_some] <;> rfl) | (simp [bne_nil_]; done), by repeat (first | (with_reducible first | exact HB.out | apply below_alloc | apply pw_below_drewN | apply below_drew1) | exact HB.out)⟩

/-! ### spec_IntsOK: function 58 -/
def spec_IntsOK.l0 : Nat → List (S64) → Int → Option (Bool)
  | 0, _, _ => none
  | k + 1, x0, x3 => if x3 < (x0.length : Int) then (if 0 ≤ x3 then ((spec_IntOK.f k ((rd_T64 x0 x3).f0) ((rd_T64 x0 x3).f1)).bind fun t149 => (if t149 = true then (spec_IntsOK.l0 k x0 (wrap64 (x3 + 1))) else (some false))) else (none)) else (some true)
def spec_IntsOK.f (k : Nat) (l0 : List (S64)) : Option (Bool) := spec_IntsOK.l0 k l0 0
theorem spec_IntsOK.mono_l : ∀ k, (∀ y0 y1, LeO (spec_IntsOK.l0 k y0 y1) (spec_IntsOK.l0 (k + 1) y0 y1))
  | 0 => fun _ _ r h => by simp [spec_IntsOK.l0] at h
  | k + 1 => by
    have ih0 := spec_IntsOK.mono_l k
    · intro y0 y1
      unfold spec_IntsOK.l0
      repeat' first
      | (with_reducible exact ih0 _ _)
      | (with_reducible exact spec_IntOK.mono _ _ _)
      | (with_reducible exact LeO.refl _)
      | (with_reducible exact LeO.none _)
      | (with_reducible refine LeO.ite ?_ ?_)
      | (with_reducible refine LeO.bind ?_ (fun _ => ?_))
      | exact ih0 _ _
      | exact spec_IntOK.mono _ _ _
      | exact LeO.none _
      | refine LeO.ite ?_ ?_
      | refine LeO.bind ?_ (fun _ => ?_)
theorem spec_IntsOK.mono : ∀ a0 k, LeO (spec_IntsOK.f k a0) (spec_IntsOK.f (k + 1) a0) := by
  intro a0 k
  have ih0 := spec_IntsOK.mono_l k
  unfold spec_IntsOK.f
  repeat' first
      | (with_reducible exact ih0 _ _)
      | (with_reducible exact spec_IntOK.mono _ _ _)
      | (with_reducible exact LeO.refl _)
      | (with_reducible exact LeO.none _)
      | (with_reducible refine LeO.ite ?_ ?_)
      | (with_reducible refine LeO.bind ?_ (fun _ => ?_))
      | exact ih0 _ _
      | exact spec_IntOK.mono _ _ _
      | exact LeO.none _
      | refine LeO.ite ?_ ?_
      | refine LeO.bind ?_ (fun _ => ?_)
set_option maxHeartbeats 8000000 in
set_option maxRecDepth 100000 in
theorem spec_IntsOK.calls (k : Nat) (A0 : Option Addr) (c0 : Nat) (l0 : List (S64)) (r : Bool) (w : World) (hr0 : Kd.C k64 w A0 l0.length l0) (hc0 : l0.length ≤ c0) (h : spec_IntsOK.f k l0 = some r) :
    Calls Tryz.prog 58 #[.slice A0 l0.length c0] w fun e w' => e = .returned (.bool r) ∧ Below w.heap.size w w' := by
  have hu64 := Tryz.underlying64
  have HR0 := Aside0.mk hr0
  have HC0 := Aside0.mk hc0
  clear hr0 hc0
  have HB := Aside0.mk (Below.refl w.heap.size w)
  have H : (spec_IntsOK.l0 k l0 0) = some r := h
  clear h
  have H' := Aside0.mk H
  clear H
  go_enter Tryz.func58, Tryz.ntmps58
  go_wp2
  go_loopg [3] k (fun kq v3 w' => ∃ (x3_1 : Int), v3 = .int .i64 x3_1 ∧ Aside0 (spec_IntsOK.l0 kq l0 x3_1 = some r) ∧ Aside0 (kq ≤ k) ∧ Aside0 (Below w.heap.size w w'))
  case atStart => exact ⟨(0), (by first | rfl | (simp; done) | (simp [*]; done) | (simp [bne_nil_]; done)), H', ⟨Nat.le_refl _⟩, ⟨by repeat (first | (with_reducible first | exact HB.out | apply below_alloc | apply pw_below_drewN | apply below_drew1) | exact HB.out)⟩⟩
  case round =>
    clear H'
    obtain ⟨x3_1, rfl, HA, HK1, HB⟩ := hrel
    cases gk with
    | zero => exact absurd HA.out (by simp [spec_IntsOK.l0])
    | succ k1 =>
      have H := HA.out
      clear HA
      simp only [spec_IntsOK.l0] at H
      by_cases c2 : x3_1 < (l0.length : Int)
      · rw [if_pos c2] at H
        have c2b0 : decide (x3_1 < (l0.length : Int)) = true := decide_eq_true c2
        clear c2
        by_cases c3 : 0 ≤ x3_1
        · rw [if_pos c3] at H
          have c3b0 : decide (0 ≤ x3_1) = true := decide_eq_true c3
          clear c3
          replace H := Option.bind_eq_some_iff.mp H
          obtain ⟨t149, A40, H⟩ := H
          replace H : (if t149 = true then (spec_IntsOK.l0 k1 l0 (wrap64 (x3_1 + 1))) else (some false)) = some r := H
          have A4 := Aside0.mk A40
          clear A40
          by_cases c5 : t149 = true
          · subst c5
            have H1 : (spec_IntsOK.l0 k1 l0 (wrap64 (x3_1 + 1))) = some r := by rw [if_pos rfl] at H; exact H
            clear H
            have H := H1
            clear H1
            have H' := Aside0.mk H
            clear H
            have p148 : 0 ≤ (x3_1 : Int) := of_decide_eq_true (by first | (with_reducible assumption) | assumption)
            have q148 : x3_1 < (l0.length : Int) := of_decide_eq_true (by first | (with_reducible assumption) | assumption)
            obtain ⟨ad148, e148, hx148_0, hx148_1⟩ := at_T64 HR0.out x3_1 p148 q148
            cases e148
            replace hx148_0 := (HB.out.cell (World.block_lt_of_cell? w _ hx148_0)).trans hx148_0
            replace hx148_1 := (HB.out.cell (World.block_lt_of_cell? w _ hx148_1)).trans hx148_1
            replace p148 := eq_true p148
            replace q148 := eq_true q148
            go_wp2_with (first | ((with_reducible refine gate_callee (f := 57) rfl ?_); refine goesL_ (some 14) rfl rfl Tryz.func57 (by kernel_rfl) rfl #[.agg #[.bool ((rd_T64 l0 x3_1).f0), .string ((rd_T64 l0 x3_1).f1)]] rfl (by (try simp only [List.map_toArray, List.map_cons, List.map_nil]); first | done | rfl | (simp only [List.length_drop, List.length_take]; rfl)) ?_; (with_reducible refine (spec_IntOK.calls k1 ((rd_T64 l0 x3_1).f0) ((rd_T64 l0 x3_1).f1) true _ A4.out).mono ?_); rintro e w6 ⟨rfl, hb⟩; refine ⟨_, rfl, ?_⟩; have n0_ := Aside0.mk (below_step (by repeat (first | (with_reducible first | exact HB.out | apply below_alloc | apply pw_below_drewN | apply below_drew1) | exact HB.out)) hb); clear HB; have HB := n0_; clear n0_; (try clear hb); (try clear hb2); (try clear hk); (try clear hi)))
            go_roundg k1
            case measure => have := HK1.out; omega
            case rel => exact ⟨(wrap64 (x3_1 + 1)), (by first | rfl | (simp; done) | (simp [*]; done) | (simp [bne_nil_]; done)), H', ⟨by have := HK1.out; omega⟩, ⟨by repeat (first | (with_reducible first | exact HB.out | apply below_alloc | apply pw_below_drewN | apply below_drew1) | exact HB.out)⟩⟩
          · replace c5 := Bool.eq_false_iff.mpr c5
            subst c5
            have H1 : (some false) = some r := by rw [if_neg (show ¬ (false = true) by decide)] at H; exact H
            clear H
            have H := H1
            clear H1
            obtain rfl := Option.some.inj H
            have p148 : 0 ≤ (x3_1 : Int) := of_decide_eq_true (by first | (with_reducible assumption) | assumption)
            have q148 : x3_1 < (l0.length : Int) := of_decide_eq_true (by first | (with_reducible assumption) | assumption)
            obtain ⟨ad148, e148, hx148_0, hx148_1⟩ := at_T64 HR0.out x3_1 p148 q148
            cases e148
            replace hx148_0 := (HB.out.cell (World.block_lt_of_cell? w _ hx148_0)).trans hx148_0
            replace hx148_1 := (HB.out.cell (World.block_lt_of_cell? w _ hx148_1)).trans hx148_1
            replace p148 := eq_true p148
            replace q148 := eq_true q148
            go_wp2_with (first | ((with_reducible refine gate_callee (f := 57) rfl ?_); refine goesL_ (some 14) rfl rfl Tryz.func57 (by kernel_rfl) rfl #[.agg #[.bool ((rd_T64 l0 x3_1).f0), .string ((rd_T64 l0 x3_1).f1)]] rfl (by (try simp only [List.map_toArray, List.map_cons, List.map_nil]); first | done | rfl | (simp only [List.length_drop, List.length_take]; rfl)) ?_; (with_reducible refine (spec_IntOK.calls k1 ((rd_T64 l0 x3_1).f0) ((rd_T64 l0 x3_1).f1) false _ A4.out).mono ?_); rintro e w7 ⟨rfl, hb⟩; refine ⟨_, rfl, ?_⟩; have n0_ := Aside0.mk (below_step (by repeat (first | (with_reducible first | exact HB.out | apply below_alloc | apply pw_below_drewN | apply below_drew1) | exact HB.out)) hb); clear HB; have HB := n0_; clear n0_; (try clear hb); (try clear hb2); (try clear hk); (try clear hi)))
            go_ret
            exact ⟨by first | rfl | (simp [errW_none, errW_some] <;> rfl) | (simp [*, errW_none, errW_some] <;> rfl) | (simp [bne_nil_]; done), by repeat (first | (with_reducible first | exact HB.out | apply below_alloc | apply pw_below_drewN | apply below_drew1) | exact HB.out)⟩
        · rw [if_neg c3] at H
          exact absurd H (by simp)
      · rw [if_neg c2] at H
        have c2b0 : decide (x3_1 < (l0.length : Int)) = false := decide_eq_false c2
        clear c2
        obtain rfl := Option.some.inj H
        go_wp2
        go_ret
        exact ⟨by first | rfl | (simp [errW_none, errW_some] <;> rfl) | (simp [*, errW_none, errW_some] <;> rfl) | (simp [bne_nil_]; done), by repeat (first | (with_reducible first | exact HB.out | apply below_alloc | apply pw_below_drewN | apply below_drew1) | exact HB.out)⟩

/-! ### spec_allDigits: function 53 -/
def spec_allDigits.l0 : Nat → ByteArray → Int → Option (Bool)
  | 0, _, _ => none
  | k + 1, x0, x3 => if x3 < (x0.size : Int) then (if 0 ≤ x3 then ((spec_isDigit.f (bt x0 x3)).bind fun t150 => (if t150 = true then (spec_allDigits.l0 k x0 (wrap64 (x3 + 1))) else (some false))) else (none)) else (some (decide ((x0.size : Int) > 0)))
def spec_allDigits.f (k : Nat) (a0 : ByteArray) : Option (Bool) := spec_allDigits.l0 k a0 0
theorem spec_allDigits.mono_l : ∀ k, (∀ y0 y1, LeO (spec_allDigits.l0 k y0 y1) (spec_allDigits.l0 (k + 1) y0 y1))
  | 0 => fun _ _ r h => by simp [spec_allDigits.l0] at h
  | k + 1 => by
    have ih0 := spec_allDigits.mono_l k
    · intro y0 y1
      unfold spec_allDigits.l0
      repeat' first
      | (with_reducible exact ih0 _ _)
      | (with_reducible exact LeO.refl _)
      | (with_reducible exact LeO.none _)
      | (with_reducible refine LeO.ite ?_ ?_)
      | (with_reducible refine LeO.bind ?_ (fun _ => ?_))
      | exact ih0 _ _
      | exact LeO.none _
      | refine LeO.ite ?_ ?_
      | refine LeO.bind ?_ (fun _ => ?_)
theorem spec_allDigits.mono : ∀ a0 k, LeO (spec_allDigits.f k a0) (spec_allDigits.f (k + 1) a0) := by
  intro a0 k
  have ih0 := spec_allDigits.mono_l k
  unfold spec_allDigits.f
  repeat' first
      | (with_reducible exact ih0 _ _)
      | (with_reducible exact LeO.refl _)
      | (with_reducible exact LeO.none _)
      | (with_reducible refine LeO.ite ?_ ?_)
      | (with_reducible refine LeO.bind ?_ (fun _ => ?_))
      | exact ih0 _ _
      | exact LeO.none _
      | refine LeO.ite ?_ ?_
      | refine LeO.bind ?_ (fun _ => ?_)
set_option maxHeartbeats 8000000 in
set_option maxRecDepth 100000 in
theorem spec_allDigits.calls (k : Nat) (a0 : ByteArray) (r : Bool) (w : World) (h : spec_allDigits.f k a0 = some r) :
    Calls Tryz.prog 53 #[.string a0] w fun e w' => e = .returned (.bool r) ∧ Drawn0 w w' := by
  have H : (spec_allDigits.l0 k a0 0) = some r := h
  clear h
  have H' := Aside0.mk H
  clear H
  go_enter Tryz.func53, Tryz.ntmps53
  go_wp2
  go_loopg [3] k (fun kq v3 w' => ∃ (x3_1 : Int), v3 = .int .i64 x3_1 ∧ Aside0 (spec_allDigits.l0 kq a0 x3_1 = some r) ∧ Aside0 (kq ≤ k) ∧ Drawn0 w w')
  case atStart => exact ⟨(0), (by first | rfl | (simp; done) | (simp [*]; done) | (simp [bne_nil_]; done)), H', ⟨Nat.le_refl _⟩, by repeat (first | exact Drawn0.refl _ | apply Drawn0.step)⟩
  case round =>
    clear H'
    obtain ⟨x3_1, rfl, HA, HK1, ⟨m1, rfl⟩⟩ := hrel
    cases gk with
    | zero => exact absurd HA.out (by simp [spec_allDigits.l0])
    | succ k1 =>
      have H := HA.out
      clear HA
      simp only [spec_allDigits.l0] at H
      by_cases c2 : x3_1 < (a0.size : Int)
      · rw [if_pos c2] at H
        have c2b0 : decide (x3_1 < (a0.size : Int)) = true := decide_eq_true c2
        clear c2
        by_cases c3 : 0 ≤ x3_1
        · rw [if_pos c3] at H
          have c3b0 : decide (0 ≤ x3_1) = true := decide_eq_true c3
          clear c3
          replace H := Option.bind_eq_some_iff.mp H
          obtain ⟨t150, A50, H⟩ := H
          replace H : (if t150 = true then (spec_allDigits.l0 k1 a0 (wrap64 (x3_1 + 1))) else (some false)) = some r := H
          have A5 := Aside0.mk A50
          clear A50
          by_cases c6 : t150 = true
          · subst c6
            have H1 : (spec_allDigits.l0 k1 a0 (wrap64 (x3_1 + 1))) = some r := by rw [if_pos rfl] at H; exact H
            clear H
            have H := H1
            clear H1
            have H' := Aside0.mk H
            clear H
            have p4 : 0 ≤ (x3_1 : Int) := of_decide_eq_true (by first | (with_reducible assumption) | assumption)
            have q4 : x3_1 < (a0.size : Int) := of_decide_eq_true (by first | (with_reducible assumption) | assumption)
            have hx4 := bt_at a0 x3_1
            replace p4 := eq_true p4
            replace q4 := eq_true q4
            go_wp2_with (first | ((with_reducible refine gate_callee (f := 38) rfl ?_); refine goesL_ (some 13) rfl rfl Tryz.func38 (by kernel_rfl) rfl #[.int .u8 (bt a0 x3_1)] rfl (by (try simp only [List.map_toArray, List.map_cons, List.map_nil]); first | done | rfl | (simp only [List.length_drop, List.length_take]; rfl)) ?_; (with_reducible refine (spec_isDigit.calls (bt a0 x3_1) true _ A5.out).mono ?_); rintro e w' ⟨rfl, ⟨nd, rfl⟩⟩; refine ⟨_, rfl, ?_⟩))
            go_roundg k1
            case measure => have := HK1.out; omega
            case rel => exact ⟨(wrap64 (x3_1 + 1)), (by first | rfl | (simp; done) | (simp [*]; done) | (simp [bne_nil_]; done)), H', ⟨by have := HK1.out; omega⟩, by repeat (first | exact Drawn0.refl _ | apply Drawn0.step)⟩
          · replace c6 := Bool.eq_false_iff.mpr c6
            subst c6
            have H1 : (some false) = some r := by rw [if_neg (show ¬ (false = true) by decide)] at H; exact H
            clear H
            have H := H1
            clear H1
            obtain rfl := Option.some.inj H
            have p4 : 0 ≤ (x3_1 : Int) := of_decide_eq_true (by first | (with_reducible assumption) | assumption)
            have q4 : x3_1 < (a0.size : Int) := of_decide_eq_true (by first | (with_reducible assumption) | assumption)
            have hx4 := bt_at a0 x3_1
            replace p4 := eq_true p4
            replace q4 := eq_true q4
            go_wp2_with (first | ((with_reducible refine gate_callee (f := 38) rfl ?_); refine goesL_ (some 13) rfl rfl Tryz.func38 (by kernel_rfl) rfl #[.int .u8 (bt a0 x3_1)] rfl (by (try simp only [List.map_toArray, List.map_cons, List.map_nil]); first | done | rfl | (simp only [List.length_drop, List.length_take]; rfl)) ?_; (with_reducible refine (spec_isDigit.calls (bt a0 x3_1) false _ A5.out).mono ?_); rintro e w' ⟨rfl, ⟨nd, rfl⟩⟩; refine ⟨_, rfl, ?_⟩))
            go_ret
            exact ⟨by first | rfl | (simp; done) | (simp [*]; done) | (simp [bne_nil_]; done), by repeat (first | exact Drawn0.refl _ | apply Drawn0.step)⟩
        · rw [if_neg c3] at H
          exact absurd H (by simp)
      · rw [if_neg c2] at H
        have c2b0 : decide (x3_1 < (a0.size : Int)) = false := decide_eq_false c2
        clear c2
        obtain rfl := Option.some.inj H
        go_wp2
        go_ret
        exact ⟨by first | rfl | (simp; done) | (simp [*]; done) | (simp [bne_nil_]; done), by repeat (first | exact Drawn0.refl _ | apply Drawn0.step)⟩

/-- THE ONE PURE STATEMENT of spec_allDigits: yours. -/
def spec_allDigits.Pure : Prop := ∀ (a0 : ByteArray), a0.size ≤ 140737488351232 → ∃ k, spec_allDigits.f k a0 = some true
/-! ### spec_IdentifiersKnown: function 74 -/
def spec_IdentifiersKnown.l0 : Nat → List ByteArray → Int → Option (Bool)
  | 0, _, _ => none
  | k + 1, x0, x3 => if x3 < (x0.length : Int) then (if 0 ≤ x3 then (if ((rdOf ByteArray.empty x0 x3).size : Int) > 1 then (if 0 < ((rdOf ByteArray.empty x0 x3).size : Int) then (if (bt (rdOf ByteArray.empty x0 x3) 0) = 45 then (if 1 ≤ ((rdOf ByteArray.empty x0 x3).size : Int) then ((spec_allDigits.f k ((rdOf ByteArray.empty x0 x3).extract 1 (rdOf ByteArray.empty x0 x3).size)).bind fun t152 => (if t152 = true then (some false) else (spec_IdentifiersKnown.l0 k x0 (wrap64 (x3 + 1))))) else (none)) else (if (bt (rdOf ByteArray.empty x0 x3) 0) = 43 then (if 1 ≤ ((rdOf ByteArray.empty x0 x3).size : Int) then ((spec_allDigits.f k ((rdOf ByteArray.empty x0 x3).extract 1 (rdOf ByteArray.empty x0 x3).size)).bind fun t153 => (if t153 = true then (some false) else (spec_IdentifiersKnown.l0 k x0 (wrap64 (x3 + 1))))) else (none)) else (spec_IdentifiersKnown.l0 k x0 (wrap64 (x3 + 1))))) else (none)) else (spec_IdentifiersKnown.l0 k x0 (wrap64 (x3 + 1)))) else (none)) else (some true)
def spec_IdentifiersKnown.f (k : Nat) (l0 : List ByteArray) : Option (Bool) := spec_IdentifiersKnown.l0 k l0 0
theorem spec_IdentifiersKnown.mono_l : ∀ k, (∀ y0 y1, LeO (spec_IdentifiersKnown.l0 k y0 y1) (spec_IdentifiersKnown.l0 (k + 1) y0 y1))
  | 0 => fun _ _ r h => by simp [spec_IdentifiersKnown.l0] at h
  | k + 1 => by
    have ih0 := spec_IdentifiersKnown.mono_l k
    · intro y0 y1
      unfold spec_IdentifiersKnown.l0
      repeat' first
      | (with_reducible exact ih0 _ _)
      | (with_reducible exact spec_allDigits.mono _ _)
      | (with_reducible exact LeO.refl _)
      | (with_reducible exact LeO.none _)
      | (with_reducible refine LeO.ite ?_ ?_)
      | (with_reducible refine LeO.bind ?_ (fun _ => ?_))
      | exact ih0 _ _
      | exact spec_allDigits.mono _ _
      | exact LeO.none _
      | refine LeO.ite ?_ ?_
      | refine LeO.bind ?_ (fun _ => ?_)
theorem spec_IdentifiersKnown.mono : ∀ a0 k, LeO (spec_IdentifiersKnown.f k a0) (spec_IdentifiersKnown.f (k + 1) a0) := by
  intro a0 k
  have ih0 := spec_IdentifiersKnown.mono_l k
  unfold spec_IdentifiersKnown.f
  repeat' first
      | (with_reducible exact ih0 _ _)
      | (with_reducible exact spec_allDigits.mono _ _)
      | (with_reducible exact LeO.refl _)
      | (with_reducible exact LeO.none _)
      | (with_reducible refine LeO.ite ?_ ?_)
      | (with_reducible refine LeO.bind ?_ (fun _ => ?_))
      | exact ih0 _ _
      | exact spec_allDigits.mono _ _
      | exact LeO.none _
      | refine LeO.ite ?_ ?_
      | refine LeO.bind ?_ (fun _ => ?_)
set_option maxHeartbeats 8000000 in
set_option maxRecDepth 100000 in
theorem spec_IdentifiersKnown.calls (k : Nat) (A0 : Option Addr) (c0 : Nat) (l0 : List ByteArray) (r : Bool) (w : World) (hr0 : Kd.C Kd.string w A0 l0.length l0) (hc0 : l0.length ≤ c0) (h : spec_IdentifiersKnown.f k l0 = some r) :
    Calls Tryz.prog 74 #[.slice A0 l0.length c0] w fun e w' => e = .returned (.bool r) ∧ Drawn0 w w' := by
  have HR0 := Aside0.mk hr0
  have HC0 := Aside0.mk hc0
  clear hr0 hc0
  have H : (spec_IdentifiersKnown.l0 k l0 0) = some r := h
  clear h
  have H' := Aside0.mk H
  clear H
  go_enter Tryz.func74, Tryz.ntmps74
  go_wp2
  go_loopg [3] k (fun kq v3 w' => ∃ (x3_1 : Int), v3 = .int .i64 x3_1 ∧ Aside0 (spec_IdentifiersKnown.l0 kq l0 x3_1 = some r) ∧ Aside0 (kq ≤ k) ∧ Drawn0 w w')
  case atStart => exact ⟨(0), (by first | rfl | (simp; done) | (simp [*]; done) | (simp [bne_nil_]; done)), H', ⟨Nat.le_refl _⟩, by repeat (first | exact Drawn0.refl _ | apply Drawn0.step)⟩
  case round =>
    clear H'
    obtain ⟨x3_1, rfl, HA, HK1, ⟨m1, rfl⟩⟩ := hrel
    cases gk with
    | zero => exact absurd HA.out (by simp [spec_IdentifiersKnown.l0])
    | succ k1 =>
      have H := HA.out
      clear HA
      simp only [spec_IdentifiersKnown.l0] at H
      by_cases c2 : x3_1 < (l0.length : Int)
      · rw [if_pos c2] at H
        have c2b0 : decide (x3_1 < (l0.length : Int)) = true := decide_eq_true c2
        clear c2
        by_cases c3 : 0 ≤ x3_1
        · rw [if_pos c3] at H
          have c3b0 : decide (0 ≤ x3_1) = true := decide_eq_true c3
          clear c3
          by_cases c4 : ((rdOf ByteArray.empty l0 x3_1).size : Int) > 1
          · rw [if_pos c4] at H
            have c4b0 : decide (1 < ((rdOf ByteArray.empty l0 x3_1).size : Int)) = true := decide_eq_true c4
            have c4b1 : decide (1 < (rdOf ByteArray.empty l0 x3_1).size) = true := decide_eq_true (by omega)
            clear c4
            by_cases c5 : 0 < ((rdOf ByteArray.empty l0 x3_1).size : Int)
            · rw [if_pos c5] at H
              have c5b0 : decide (0 < ((rdOf ByteArray.empty l0 x3_1).size : Int)) = true := decide_eq_true c5
              have c5b1 : decide (0 < (rdOf ByteArray.empty l0 x3_1).size) = true := decide_eq_true (by omega)
              clear c5
              by_cases c7 : (bt (rdOf ByteArray.empty l0 x3_1) 0) = 45
              · rw [if_pos c7] at H
                have c7b0 : ((bt (rdOf ByteArray.empty l0 x3_1) 0) == 45) = true := beq_iff_eq.mpr c7
                have c7b1 : ((bt (rdOf ByteArray.empty l0 x3_1) 0) != 45) = false := bne_eq_false_iff_eq.mpr c7
                clear c7
                by_cases c8 : 1 ≤ ((rdOf ByteArray.empty l0 x3_1).size : Int)
                · rw [if_pos c8] at H
                  have c8b0 := eq_true c8
                  have c8b1 : decide (1 ≤ ((rdOf ByteArray.empty l0 x3_1).size : Int)) = true := decide_eq_true c8
                  clear c8
                  replace H := Option.bind_eq_some_iff.mp H
                  obtain ⟨t152, A90, H⟩ := H
                  replace H : (if t152 = true then (some false) else (spec_IdentifiersKnown.l0 k1 l0 (wrap64 (x3_1 + 1)))) = some r := H
                  have A9 := Aside0.mk A90
                  clear A90
                  by_cases c10 : t152 = true
                  · subst c10
                    have H1 : (some false) = some r := by rw [if_pos rfl] at H; exact H
                    clear H
                    have H := H1
                    clear H1
                    obtain rfl := Option.some.inj H
                    have p151 : 0 ≤ (x3_1 : Int) := of_decide_eq_true (by first | (with_reducible assumption) | assumption)
                    have q151 : x3_1 < (l0.length : Int) := of_decide_eq_true (by first | (with_reducible assumption) | assumption)
                    obtain ⟨ad151, e151, hx151_0⟩ := Kd.at_string HR0.out x3_1 p151 q151
                    cases e151
                    replace p151 := eq_true p151
                    replace q151 := eq_true q151
                    have p6 : 0 ≤ (0 : Int) := (by omega)
                    have q6 : 0 < (rdOf ByteArray.empty l0 x3_1).size := (by have : (0 : Int) < ((rdOf ByteArray.empty l0 x3_1).size : Int) := of_decide_eq_true (by first | (with_reducible assumption) | assumption); omega)
                    have hx6 : ∀ h : 0 < (rdOf ByteArray.empty l0 x3_1).size, (((rdOf ByteArray.empty l0 x3_1)[0]'h).toNat : Int) = bt (rdOf ByteArray.empty l0 x3_1) 0 := bt_at (rdOf ByteArray.empty l0 x3_1) 0
                    clear p6
                    have qi6 : (0 < ((rdOf ByteArray.empty l0 x3_1).size : Int)) = True := eq_true (of_decide_eq_true (by first | (with_reducible assumption) | assumption))
                    replace q6 := eq_true q6
                    go_wp2_with (first | (go_at_call 53; (with_reducible refine (spec_allDigits.calls k1 ((rdOf ByteArray.empty l0 x3_1).extract 1 (rdOf ByteArray.empty l0 x3_1).size) true _ A9.out).mono ?_); rintro e w' ⟨rfl, ⟨nd, rfl⟩⟩))
                    go_ret
                    exact ⟨by first | rfl | (simp; done) | (simp [*]; done) | (simp [bne_nil_]; done), by repeat (first | exact Drawn0.refl _ | apply Drawn0.step)⟩
                  · replace c10 := Bool.eq_false_iff.mpr c10
                    subst c10
                    have H1 : (spec_IdentifiersKnown.l0 k1 l0 (wrap64 (x3_1 + 1))) = some r := by rw [if_neg (show ¬ (false = true) by decide)] at H; exact H
                    clear H
                    have H := H1
                    clear H1
                    have H' := Aside0.mk H
                    clear H
                    have p151 : 0 ≤ (x3_1 : Int) := of_decide_eq_true (by first | (with_reducible assumption) | assumption)
                    have q151 : x3_1 < (l0.length : Int) := of_decide_eq_true (by first | (with_reducible assumption) | assumption)
                    obtain ⟨ad151, e151, hx151_0⟩ := Kd.at_string HR0.out x3_1 p151 q151
                    cases e151
                    replace p151 := eq_true p151
                    replace q151 := eq_true q151
                    have p6 : 0 ≤ (0 : Int) := (by omega)
                    have q6 : 0 < (rdOf ByteArray.empty l0 x3_1).size := (by have : (0 : Int) < ((rdOf ByteArray.empty l0 x3_1).size : Int) := of_decide_eq_true (by first | (with_reducible assumption) | assumption); omega)
                    have hx6 : ∀ h : 0 < (rdOf ByteArray.empty l0 x3_1).size, (((rdOf ByteArray.empty l0 x3_1)[0]'h).toNat : Int) = bt (rdOf ByteArray.empty l0 x3_1) 0 := bt_at (rdOf ByteArray.empty l0 x3_1) 0
                    clear p6
                    have qi6 : (0 < ((rdOf ByteArray.empty l0 x3_1).size : Int)) = True := eq_true (of_decide_eq_true (by first | (with_reducible assumption) | assumption))
                    replace q6 := eq_true q6
                    go_wp2_with (first | (go_at_call 53; (with_reducible refine (spec_allDigits.calls k1 ((rdOf ByteArray.empty l0 x3_1).extract 1 (rdOf ByteArray.empty l0 x3_1).size) false _ A9.out).mono ?_); rintro e w' ⟨rfl, ⟨nd, rfl⟩⟩))
                    go_roundg k1
                    case measure => have := HK1.out; omega
                    case rel => exact ⟨(wrap64 (x3_1 + 1)), (by first | rfl | (simp; done) | (simp [*]; done) | (simp [bne_nil_]; done)), H', ⟨by have := HK1.out; omega⟩, by repeat (first | exact Drawn0.refl _ | apply Drawn0.step)⟩
                · rw [if_neg c8] at H
                  exact absurd H (by simp)
              · rw [if_neg c7] at H
                have c7b0 : ((bt (rdOf ByteArray.empty l0 x3_1) 0) == 45) = false := beq_eq_false_iff_ne.mpr c7
                have c7b1 : ((bt (rdOf ByteArray.empty l0 x3_1) 0) != 45) = true := bne_iff_ne.mpr c7
                by_cases c12 : (bt (rdOf ByteArray.empty l0 x3_1) 0) = 43
                · rw [if_pos c12] at H
                  have c12b0 : ((bt (rdOf ByteArray.empty l0 x3_1) 0) == 43) = true := beq_iff_eq.mpr c12
                  have c12b1 : ((bt (rdOf ByteArray.empty l0 x3_1) 0) != 43) = false := bne_eq_false_iff_eq.mpr c12
                  clear c12
                  by_cases c13 : 1 ≤ ((rdOf ByteArray.empty l0 x3_1).size : Int)
                  · rw [if_pos c13] at H
                    have c13b0 := eq_true c13
                    have c13b1 : decide (1 ≤ ((rdOf ByteArray.empty l0 x3_1).size : Int)) = true := decide_eq_true c13
                    clear c13
                    replace H := Option.bind_eq_some_iff.mp H
                    obtain ⟨t153, A140, H⟩ := H
                    replace H : (if t153 = true then (some false) else (spec_IdentifiersKnown.l0 k1 l0 (wrap64 (x3_1 + 1)))) = some r := H
                    have A14 := Aside0.mk A140
                    clear A140
                    by_cases c15 : t153 = true
                    · subst c15
                      have H1 : (some false) = some r := by rw [if_pos rfl] at H; exact H
                      clear H
                      have H := H1
                      clear H1
                      obtain rfl := Option.some.inj H
                      have p151 : 0 ≤ (x3_1 : Int) := of_decide_eq_true (by first | (with_reducible assumption) | assumption)
                      have q151 : x3_1 < (l0.length : Int) := of_decide_eq_true (by first | (with_reducible assumption) | assumption)
                      obtain ⟨ad151, e151, hx151_0⟩ := Kd.at_string HR0.out x3_1 p151 q151
                      cases e151
                      replace p151 := eq_true p151
                      replace q151 := eq_true q151
                      have p6 : 0 ≤ (0 : Int) := (by omega)
                      have q6 : 0 < (rdOf ByteArray.empty l0 x3_1).size := (by have : (0 : Int) < ((rdOf ByteArray.empty l0 x3_1).size : Int) := of_decide_eq_true (by first | (with_reducible assumption) | assumption); omega)
                      have hx6 : ∀ h : 0 < (rdOf ByteArray.empty l0 x3_1).size, (((rdOf ByteArray.empty l0 x3_1)[0]'h).toNat : Int) = bt (rdOf ByteArray.empty l0 x3_1) 0 := bt_at (rdOf ByteArray.empty l0 x3_1) 0
                      clear p6
                      have qi6 : (0 < ((rdOf ByteArray.empty l0 x3_1).size : Int)) = True := eq_true (of_decide_eq_true (by first | (with_reducible assumption) | assumption))
                      replace q6 := eq_true q6
                      have p11 : 0 ≤ (0 : Int) := (by omega)
                      have q11 : 0 < (rdOf ByteArray.empty l0 x3_1).size := (by have : (0 : Int) < ((rdOf ByteArray.empty l0 x3_1).size : Int) := of_decide_eq_true (by first | (with_reducible assumption) | assumption); omega)
                      have hx11 : ∀ h : 0 < (rdOf ByteArray.empty l0 x3_1).size, (((rdOf ByteArray.empty l0 x3_1)[0]'h).toNat : Int) = bt (rdOf ByteArray.empty l0 x3_1) 0 := bt_at (rdOf ByteArray.empty l0 x3_1) 0
                      clear p11
                      have qi11 : (0 < ((rdOf ByteArray.empty l0 x3_1).size : Int)) = True := eq_true (of_decide_eq_true (by first | (with_reducible assumption) | assumption))
                      replace q11 := eq_true q11
                      go_wp2_with (first | (go_at_call 53; (with_reducible refine (spec_allDigits.calls k1 ((rdOf ByteArray.empty l0 x3_1).extract 1 (rdOf ByteArray.empty l0 x3_1).size) true _ A14.out).mono ?_); rintro e w' ⟨rfl, ⟨nd, rfl⟩⟩))
                      go_ret
                      exact ⟨by first | rfl | (simp; done) | (simp [*]; done) | (simp [bne_nil_]; done), by repeat (first | exact Drawn0.refl _ | apply Drawn0.step)⟩
                    · replace c15 := Bool.eq_false_iff.mpr c15
                      subst c15
                      have H1 : (spec_IdentifiersKnown.l0 k1 l0 (wrap64 (x3_1 + 1))) = some r := by rw [if_neg (show ¬ (false = true) by decide)] at H; exact H
                      clear H
                      have H := H1
                      clear H1
                      have H' := Aside0.mk H
                      clear H
                      have p151 : 0 ≤ (x3_1 : Int) := of_decide_eq_true (by first | (with_reducible assumption) | assumption)
                      have q151 : x3_1 < (l0.length : Int) := of_decide_eq_true (by first | (with_reducible assumption) | assumption)
                      obtain ⟨ad151, e151, hx151_0⟩ := Kd.at_string HR0.out x3_1 p151 q151
                      cases e151
                      replace p151 := eq_true p151
                      replace q151 := eq_true q151
                      have p6 : 0 ≤ (0 : Int) := (by omega)
                      have q6 : 0 < (rdOf ByteArray.empty l0 x3_1).size := (by have : (0 : Int) < ((rdOf ByteArray.empty l0 x3_1).size : Int) := of_decide_eq_true (by first | (with_reducible assumption) | assumption); omega)
                      have hx6 : ∀ h : 0 < (rdOf ByteArray.empty l0 x3_1).size, (((rdOf ByteArray.empty l0 x3_1)[0]'h).toNat : Int) = bt (rdOf ByteArray.empty l0 x3_1) 0 := bt_at (rdOf ByteArray.empty l0 x3_1) 0
                      clear p6
                      have qi6 : (0 < ((rdOf ByteArray.empty l0 x3_1).size : Int)) = True := eq_true (of_decide_eq_true (by first | (with_reducible assumption) | assumption))
                      replace q6 := eq_true q6
                      have p11 : 0 ≤ (0 : Int) := (by omega)
                      have q11 : 0 < (rdOf ByteArray.empty l0 x3_1).size := (by have : (0 : Int) < ((rdOf ByteArray.empty l0 x3_1).size : Int) := of_decide_eq_true (by first | (with_reducible assumption) | assumption); omega)
                      have hx11 : ∀ h : 0 < (rdOf ByteArray.empty l0 x3_1).size, (((rdOf ByteArray.empty l0 x3_1)[0]'h).toNat : Int) = bt (rdOf ByteArray.empty l0 x3_1) 0 := bt_at (rdOf ByteArray.empty l0 x3_1) 0
                      clear p11
                      have qi11 : (0 < ((rdOf ByteArray.empty l0 x3_1).size : Int)) = True := eq_true (of_decide_eq_true (by first | (with_reducible assumption) | assumption))
                      replace q11 := eq_true q11
                      go_wp2_with (first | (go_at_call 53; (with_reducible refine (spec_allDigits.calls k1 ((rdOf ByteArray.empty l0 x3_1).extract 1 (rdOf ByteArray.empty l0 x3_1).size) false _ A14.out).mono ?_); rintro e w' ⟨rfl, ⟨nd, rfl⟩⟩))
                      go_roundg k1
                      case measure => have := HK1.out; omega
                      case rel => exact ⟨(wrap64 (x3_1 + 1)), (by first | rfl | (simp; done) | (simp [*]; done) | (simp [bne_nil_]; done)), H', ⟨by have := HK1.out; omega⟩, by repeat (first | exact Drawn0.refl _ | apply Drawn0.step)⟩
                  · rw [if_neg c13] at H
                    exact absurd H (by simp)
                · rw [if_neg c12] at H
                  have c12b0 : ((bt (rdOf ByteArray.empty l0 x3_1) 0) == 43) = false := beq_eq_false_iff_ne.mpr c12
                  have c12b1 : ((bt (rdOf ByteArray.empty l0 x3_1) 0) != 43) = true := bne_iff_ne.mpr c12
                  have H' := Aside0.mk H
                  clear H
                  have p151 : 0 ≤ (x3_1 : Int) := of_decide_eq_true (by first | (with_reducible assumption) | assumption)
                  have q151 : x3_1 < (l0.length : Int) := of_decide_eq_true (by first | (with_reducible assumption) | assumption)
                  obtain ⟨ad151, e151, hx151_0⟩ := Kd.at_string HR0.out x3_1 p151 q151
                  cases e151
                  replace p151 := eq_true p151
                  replace q151 := eq_true q151
                  have p6 : 0 ≤ (0 : Int) := (by omega)
                  have q6 : 0 < (rdOf ByteArray.empty l0 x3_1).size := (by have : (0 : Int) < ((rdOf ByteArray.empty l0 x3_1).size : Int) := of_decide_eq_true (by first | (with_reducible assumption) | assumption); omega)
                  have hx6 : ∀ h : 0 < (rdOf ByteArray.empty l0 x3_1).size, (((rdOf ByteArray.empty l0 x3_1)[0]'h).toNat : Int) = bt (rdOf ByteArray.empty l0 x3_1) 0 := bt_at (rdOf ByteArray.empty l0 x3_1) 0
                  clear p6
                  have qi6 : (0 < ((rdOf ByteArray.empty l0 x3_1).size : Int)) = True := eq_true (of_decide_eq_true (by first | (with_reducible assumption) | assumption))
                  replace q6 := eq_true q6
                  have p11 : 0 ≤ (0 : Int) := (by omega)
                  have q11 : 0 < (rdOf ByteArray.empty l0 x3_1).size := (by have : (0 : Int) < ((rdOf ByteArray.empty l0 x3_1).size : Int) := of_decide_eq_true (by first | (with_reducible assumption) | assumption); omega)
                  have hx11 : ∀ h : 0 < (rdOf ByteArray.empty l0 x3_1).size, (((rdOf ByteArray.empty l0 x3_1)[0]'h).toNat : Int) = bt (rdOf ByteArray.empty l0 x3_1) 0 := bt_at (rdOf ByteArray.empty l0 x3_1) 0
                  clear p11
                  have qi11 : (0 < ((rdOf ByteArray.empty l0 x3_1).size : Int)) = True := eq_true (of_decide_eq_true (by first | (with_reducible assumption) | assumption))
                  replace q11 := eq_true q11
                  go_wp2
                  go_roundg k1
                  case measure => have := HK1.out; omega
                  case rel => exact ⟨(wrap64 (x3_1 + 1)), (by first | rfl | (simp; done) | (simp [*]; done) | (simp [bne_nil_]; done)), H', ⟨by have := HK1.out; omega⟩, by repeat (first | exact Drawn0.refl _ | apply Drawn0.step)⟩
            · rw [if_neg c5] at H
              exact absurd H (by simp)
          · rw [if_neg c4] at H
            have c4b0 : decide (1 < ((rdOf ByteArray.empty l0 x3_1).size : Int)) = false := decide_eq_false c4
            have c4b1 : decide (1 < (rdOf ByteArray.empty l0 x3_1).size) = false := decide_eq_false (by omega)
            clear c4
            have H' := Aside0.mk H
            clear H
            have p151 : 0 ≤ (x3_1 : Int) := of_decide_eq_true (by first | (with_reducible assumption) | assumption)
            have q151 : x3_1 < (l0.length : Int) := of_decide_eq_true (by first | (with_reducible assumption) | assumption)
            obtain ⟨ad151, e151, hx151_0⟩ := Kd.at_string HR0.out x3_1 p151 q151
            cases e151
            replace p151 := eq_true p151
            replace q151 := eq_true q151
            go_wp2
            go_roundg k1
            case measure => have := HK1.out; omega
            case rel => exact ⟨(wrap64 (x3_1 + 1)), (by first | rfl | (simp; done) | (simp [*]; done) | (simp [bne_nil_]; done)), H', ⟨by have := HK1.out; omega⟩, by repeat (first | exact Drawn0.refl _ | apply Drawn0.step)⟩
        · rw [if_neg c3] at H
          exact absurd H (by simp)
      · rw [if_neg c2] at H
        have c2b0 : decide (x3_1 < (l0.length : Int)) = false := decide_eq_false c2
        clear c2
        obtain rfl := Option.some.inj H
        go_wp2
        go_ret
        exact ⟨by first | rfl | (simp; done) | (simp [*]; done) | (simp [bne_nil_]; done), by repeat (first | exact Drawn0.refl _ | apply Drawn0.step)⟩

/-! ### spec_indexOf: function 51 -/
def spec_indexOf.l0 : Nat → ByteArray → Int → Int → Option (Int)
  | 0, _, _, _ => none
  | k + 1, x0, x1, x5 => if x5 < (x0.size : Int) then (if 0 ≤ x5 then (if (bt x0 x5) = x1 then (some x5) else (spec_indexOf.l0 k x0 x1 (wrap64 (x5 + 1)))) else (none)) else (some (-1))
def spec_indexOf.f (k : Nat) (a0 : ByteArray) (a1 : Int) : Option (Int) := spec_indexOf.l0 k a0 a1 0
theorem spec_indexOf.mono_l : ∀ k, (∀ y0 y1 y2, LeO (spec_indexOf.l0 k y0 y1 y2) (spec_indexOf.l0 (k + 1) y0 y1 y2))
  | 0 => fun _ _ _ r h => by simp [spec_indexOf.l0] at h
  | k + 1 => by
    have ih0 := spec_indexOf.mono_l k
    · intro y0 y1 y2
      unfold spec_indexOf.l0
      repeat' first
      | (with_reducible exact ih0 _ _ _)
      | (with_reducible exact LeO.refl _)
      | (with_reducible exact LeO.none _)
      | (with_reducible refine LeO.ite ?_ ?_)
      | (with_reducible refine LeO.bind ?_ (fun _ => ?_))
      | exact ih0 _ _ _
      | exact LeO.none _
      | refine LeO.ite ?_ ?_
      | refine LeO.bind ?_ (fun _ => ?_)
theorem spec_indexOf.mono : ∀ a0 a1 k, LeO (spec_indexOf.f k a0 a1) (spec_indexOf.f (k + 1) a0 a1) := by
  intro a0 a1 k
  have ih0 := spec_indexOf.mono_l k
  unfold spec_indexOf.f
  repeat' first
      | (with_reducible exact ih0 _ _ _)
      | (with_reducible exact LeO.refl _)
      | (with_reducible exact LeO.none _)
      | (with_reducible refine LeO.ite ?_ ?_)
      | (with_reducible refine LeO.bind ?_ (fun _ => ?_))
      | exact ih0 _ _ _
      | exact LeO.none _
      | refine LeO.ite ?_ ?_
      | refine LeO.bind ?_ (fun _ => ?_)
set_option maxHeartbeats 8000000 in
set_option maxRecDepth 100000 in
theorem spec_indexOf.calls (k : Nat) (a0 : ByteArray) (a1 : Int) (r : Int) (w : World) (h : spec_indexOf.f k a0 a1 = some r) :
    Calls Tryz.prog 51 #[.string a0, .int .u8 a1] w fun e w' => e = .returned (.int .i64 r) ∧ Drawn0 w w' := by
  have H : (spec_indexOf.l0 k a0 a1 0) = some r := h
  clear h
  have H' := Aside0.mk H
  clear H
  go_enter Tryz.func51, Tryz.ntmps51
  go_wp2
  go_loopg [5] k (fun kq v5 w' => ∃ (x5_1 : Int), v5 = .int .i64 x5_1 ∧ Aside0 (spec_indexOf.l0 kq a0 a1 x5_1 = some r) ∧ Aside0 (kq ≤ k) ∧ Drawn0 w w')
  case atStart => exact ⟨(0), (by first | rfl | (simp; done) | (simp [*]; done) | (simp [bne_nil_]; done)), H', ⟨Nat.le_refl _⟩, by repeat (first | exact Drawn0.refl _ | apply Drawn0.step)⟩
  case round =>
    clear H'
    try clear p2
    obtain ⟨x5_1, rfl, HA, HK1, ⟨m1, rfl⟩⟩ := hrel
    cases gk with
    | zero => exact absurd HA.out (by simp [spec_indexOf.l0])
    | succ k1 =>
      have H := HA.out
      clear HA
      simp only [spec_indexOf.l0] at H
      by_cases c3 : x5_1 < (a0.size : Int)
      · rw [if_pos c3] at H
        have c3b0 : decide (x5_1 < (a0.size : Int)) = true := decide_eq_true c3
        clear c3
        by_cases c4 : 0 ≤ x5_1
        · rw [if_pos c4] at H
          have c4b0 : decide (0 ≤ x5_1) = true := decide_eq_true c4
          clear c4
          by_cases c6 : (bt a0 x5_1) = a1
          · rw [if_pos c6] at H
            have c6b0 : ((bt a0 x5_1) == a1) = true := beq_iff_eq.mpr c6
            have c6b1 : ((bt a0 x5_1) != a1) = false := bne_eq_false_iff_eq.mpr c6
            clear c6
            obtain rfl := Option.some.inj H
            have p5 : 0 ≤ (x5_1 : Int) := of_decide_eq_true (by first | (with_reducible assumption) | assumption)
            have q5 : x5_1 < (a0.size : Int) := of_decide_eq_true (by first | (with_reducible assumption) | assumption)
            have hx5 := bt_at a0 x5_1
            replace p5 := eq_true p5
            replace q5 := eq_true q5
            go_wp2
            go_ret
            exact ⟨by first | rfl | (simp; done) | (simp [*]; done) | (simp [bne_nil_]; done), by repeat (first | exact Drawn0.refl _ | apply Drawn0.step)⟩
          · rw [if_neg c6] at H
            have c6b0 : ((bt a0 x5_1) == a1) = false := beq_eq_false_iff_ne.mpr c6
            have c6b1 : ((bt a0 x5_1) != a1) = true := bne_iff_ne.mpr c6
            have H' := Aside0.mk H
            clear H
            have p5 : 0 ≤ (x5_1 : Int) := of_decide_eq_true (by first | (with_reducible assumption) | assumption)
            have q5 : x5_1 < (a0.size : Int) := of_decide_eq_true (by first | (with_reducible assumption) | assumption)
            have hx5 := bt_at a0 x5_1
            replace p5 := eq_true p5
            replace q5 := eq_true q5
            go_wp2
            go_roundg k1
            case measure => have := HK1.out; omega
            case rel => exact ⟨(wrap64 (x5_1 + 1)), (by first | rfl | (simp; done) | (simp [*]; done) | (simp [bne_nil_]; done)), H', ⟨by have := HK1.out; omega⟩, by repeat (first | exact Drawn0.refl _ | apply Drawn0.step)⟩
        · rw [if_neg c4] at H
          exact absurd H (by simp)
      · rw [if_neg c3] at H
        have c3b0 : decide (x5_1 < (a0.size : Int)) = false := decide_eq_false c3
        clear c3
        obtain rfl := Option.some.inj H
        go_wp2
        go_ret
        exact ⟨by first | rfl | (simp; done) | (simp [*]; done) | (simp [bne_nil_]; done), by repeat (first | exact Drawn0.refl _ | apply Drawn0.step)⟩

-- GIVEN: function 78 (spec_likeIdentifiers)

/-! ### spec_BuildKnown: function 59 -/
def spec_BuildKnown.f (k : Nat) (a0 : ByteArray) : Option (Bool) := (spec_Ascii.f k a0).bind fun t154 => (if t154 = true then ((Giv.spec_likeIdentifiers.f a0).bind fun t155 => ((spec_IdentifiersKnown.f k t155).bind fun t158 => (some t158))) else (some false))
theorem spec_BuildKnown.mono : ∀ a0 k, LeO (spec_BuildKnown.f k a0) (spec_BuildKnown.f (k + 1) a0) := by
  intro a0 k
  unfold spec_BuildKnown.f
  repeat' first
      | (with_reducible exact spec_Ascii.mono _ _)
      | (with_reducible exact spec_IdentifiersKnown.mono _ _)
      | (with_reducible exact LeO.refl _)
      | (with_reducible exact LeO.none _)
      | (with_reducible refine LeO.ite ?_ ?_)
      | (with_reducible refine LeO.bind ?_ (fun _ => ?_))
      | exact spec_Ascii.mono _ _
      | exact spec_IdentifiersKnown.mono _ _
      | exact LeO.none _
      | refine LeO.ite ?_ ?_
      | refine LeO.bind ?_ (fun _ => ?_)
set_option maxHeartbeats 8000000 in
set_option maxRecDepth 100000 in
theorem spec_BuildKnown.calls (k : Nat) (a0 : ByteArray) (r : Bool) (w : World) (h : spec_BuildKnown.f k a0 = some r) :
    Calls Tryz.prog 59 #[.string a0] w fun e w' => e = .returned (.bool r) ∧ Below w.heap.size w w' := by
  have HB := Aside0.mk (Below.refl w.heap.size w)
  have H : ((spec_Ascii.f k a0).bind fun t154 => (if t154 = true then ((Giv.spec_likeIdentifiers.f a0).bind fun t155 => ((spec_IdentifiersKnown.f k t155).bind fun t158 => (some t158))) else (some false))) = some r := h
  clear h
  replace H := Option.bind_eq_some_iff.mp H
  obtain ⟨t154, A20, H⟩ := H
  replace H : (if t154 = true then ((Giv.spec_likeIdentifiers.f a0).bind fun t155 => ((spec_IdentifiersKnown.f k t155).bind fun t158 => (some t158))) else (some false)) = some r := H
  have A2 := Aside0.mk A20
  clear A20
  by_cases c3 : t154 = true
  · subst c3
    have H1 : ((Giv.spec_likeIdentifiers.f a0).bind fun t155 => ((spec_IdentifiersKnown.f k t155).bind fun t158 => (some t158))) = some r := by rw [if_pos rfl] at H; exact H
    clear H
    have H := H1
    clear H1
    replace H := Option.bind_eq_some_iff.mp H
    obtain ⟨t155, A40, H⟩ := H
    replace H : ((spec_IdentifiersKnown.f k t155).bind fun t158 => (some t158)) = some r := H
    have A4 := Aside0.mk A40
    clear A40
    replace H := Option.bind_eq_some_iff.mp H
    obtain ⟨t158, A50, H⟩ := H
    replace H : (some t158) = some r := H
    have A5 := Aside0.mk A50
    clear A50
    obtain rfl := Option.some.inj H
    go_enter Tryz.func59, Tryz.ntmps59
    go_wp2_with (first | ((with_reducible refine gate_callee (f := 34) rfl ?_); refine goesL_ (some 4) rfl rfl Tryz.func34 (by kernel_rfl) rfl #[.string a0] rfl (by (try simp only [List.map_toArray, List.map_cons, List.map_nil]); first | done | rfl | (simp only [List.length_drop, List.length_take]; rfl)) ?_; (with_reducible refine (spec_Ascii.calls k a0 true _ A2.out).mono ?_); rintro e w' ⟨rfl, ⟨nd, rfl⟩⟩; refine ⟨_, rfl, ?_⟩) | (go_at_call 78; (with_reducible refine (Giv.spec_likeIdentifiers.calls a0 t155 _ A4.out).mono ?_); rintro e w6 ⟨v156, rfl, ho0, hb⟩; have n0_ := Aside0.mk (Kd.R_lower ho0 (below_size (by repeat (first | (with_reducible first | exact HB.out | apply below_alloc | apply pw_below_drewN | apply below_drew1) | exact HB.out)))); have n1_ := Aside0.mk (below_step (by repeat (first | (with_reducible first | exact HB.out | apply below_alloc | apply pw_below_drewN | apply below_drew1) | exact HB.out)) hb); clear HB; have HO157 := n0_; have HB := n1_; clear n0_ n1_; (try clear hb); (try clear hb2); (try clear hk); (try clear hi); (try clear ho0); obtain ⟨Ao7, co7, eo7⟩ := Kd.R_slice HO157.out; subst eo7) | (go_at_call 74; (with_reducible refine (spec_IdentifiersKnown.calls k _ _ t155 t158 _ ?side1 ?side2 A5.out).mono ?_); (case side1 => repeat (first | exact (Kd.R_reads' HO157.out).2.2 | (with_reducible refine Kd.C_alloc ?_ _) | (with_reducible refine Kd.C_drewN ?_ _) | (with_reducible refine Kd.C_drew ?_))); (case side2 => exact (Kd.R_reads' HO157.out).2.1); rintro e w' ⟨rfl, ⟨nd, rfl⟩⟩))
    go_ret
    exact ⟨by first | rfl | (simp [errW_none, errW_some] <;> rfl) | (simp [*, errW_none, errW_some] <;> rfl) | (simp [bne_nil_]; done), by repeat (first | (with_reducible first | exact HB.out | apply below_alloc | apply pw_below_drewN | apply below_drew1) | exact HB.out)⟩
  · replace c3 := Bool.eq_false_iff.mpr c3
    subst c3
    have H1 : (some false) = some r := by rw [if_neg (show ¬ (false = true) by decide)] at H; exact H
    clear H
    have H := H1
    clear H1
    obtain rfl := Option.some.inj H
    go_enter Tryz.func59, Tryz.ntmps59
    go_wp2_with (first | ((with_reducible refine gate_callee (f := 34) rfl ?_); refine goesL_ (some 4) rfl rfl Tryz.func34 (by kernel_rfl) rfl #[.string a0] rfl (by (try simp only [List.map_toArray, List.map_cons, List.map_nil]); first | done | rfl | (simp only [List.length_drop, List.length_take]; rfl)) ?_; (with_reducible refine (spec_Ascii.calls k a0 false _ A2.out).mono ?_); rintro e w' ⟨rfl, ⟨nd, rfl⟩⟩; refine ⟨_, rfl, ?_⟩))
    go_ret
    exact ⟨by first | rfl | (simp [errW_none, errW_some] <;> rfl) | (simp [*, errW_none, errW_some] <;> rfl) | (simp [bne_nil_]; done), by repeat (first | (with_reducible first | exact HB.out | apply below_alloc | apply pw_below_drewN | apply below_drew1) | exact HB.out)⟩

/-! ### spec_LikeOK: function 37 -/
def spec_LikeOK.l0 : Nat → Int → Bool → List (S64) → ByteArray → ByteArray → Option (Bool)
  | 0, _, _, _, _, _ => none
  | k + 1, x3, x160000, x160001, x160002, x160003 => if x3 < (x160001.length : Int) then (if 0 ≤ x3 then (if (rd_T64 x160001 x3).f0 = true then (some false) else (spec_LikeOK.l0 k (wrap64 (x3 + 1)) x160000 x160001 x160002 x160003)) else (none)) else ((spec_IntsOK.f k x160001).bind fun t161 => (if t161 = true then ((spec_BuildKnown.f k x160002).bind fun t162 => (if t162 = true then (if x160002.toList = ([] : List UInt8) then (some true) else (if 0 < (x160002.size : Int) then ((spec_isDigit.f (bt x160002 0)).bind fun t163 => (if t163 = true then (some false) else (some ((bt x160002 0) != 46)))) else (none))) else (some false))) else (some false)))
def spec_LikeOK.f (k : Nat) (a0_0 : Bool) (l0_1 : List (S64)) (a0_2 : ByteArray) (a0_3 : ByteArray) : Option (Bool) := spec_LikeOK.l0 k 0 a0_0 l0_1 a0_2 a0_3
theorem spec_LikeOK.mono_l : ∀ k, (∀ y0 y1 y2 y3 y4, LeO (spec_LikeOK.l0 k y0 y1 y2 y3 y4) (spec_LikeOK.l0 (k + 1) y0 y1 y2 y3 y4))
  | 0 => fun _ _ _ _ _ r h => by simp [spec_LikeOK.l0] at h
  | k + 1 => by
    have ih0 := spec_LikeOK.mono_l k
    · intro y0 y1 y2 y3 y4
      unfold spec_LikeOK.l0
      repeat' first
      | (with_reducible exact ih0 _ _ _ _ _)
      | (with_reducible exact spec_BuildKnown.mono _ _)
      | (with_reducible exact spec_IntsOK.mono _ _)
      | (with_reducible exact LeO.refl _)
      | (with_reducible exact LeO.none _)
      | (with_reducible refine LeO.ite ?_ ?_)
      | (with_reducible refine LeO.bind ?_ (fun _ => ?_))
      | exact ih0 _ _ _ _ _
      | exact spec_BuildKnown.mono _ _
      | exact spec_IntsOK.mono _ _
      | exact LeO.none _
      | refine LeO.ite ?_ ?_
      | refine LeO.bind ?_ (fun _ => ?_)
theorem spec_LikeOK.mono : ∀ a0 a1 a2 a3 k, LeO (spec_LikeOK.f k a0 a1 a2 a3) (spec_LikeOK.f (k + 1) a0 a1 a2 a3) := by
  intro a0 a1 a2 a3 k
  have ih0 := spec_LikeOK.mono_l k
  unfold spec_LikeOK.f
  repeat' first
      | (with_reducible exact ih0 _ _ _ _ _)
      | (with_reducible exact spec_BuildKnown.mono _ _)
      | (with_reducible exact spec_IntsOK.mono _ _)
      | (with_reducible exact LeO.refl _)
      | (with_reducible exact LeO.none _)
      | (with_reducible refine LeO.ite ?_ ?_)
      | (with_reducible refine LeO.bind ?_ (fun _ => ?_))
      | exact ih0 _ _ _ _ _
      | exact spec_BuildKnown.mono _ _
      | exact spec_IntsOK.mono _ _
      | exact LeO.none _
      | refine LeO.ite ?_ ?_
      | refine LeO.bind ?_ (fun _ => ?_)
set_option maxHeartbeats 8000000 in
set_option maxRecDepth 100000 in
theorem spec_LikeOK.calls (k : Nat) (a0_0 : Bool) (A0_1 : Option Addr) (c0_1 : Nat) (l0_1 : List (S64)) (a0_2 : ByteArray) (a0_3 : ByteArray) (r : Bool) (w : World) (hr0_1 : Kd.C k64 w A0_1 l0_1.length l0_1) (hc0_1 : l0_1.length ≤ c0_1) (h : spec_LikeOK.f k a0_0 l0_1 a0_2 a0_3 = some r) :
    Calls Tryz.prog 37 #[.agg #[.bool a0_0, .slice A0_1 l0_1.length c0_1, .string a0_2, .string a0_3]] w fun e w' => e = .returned (.bool r) ∧ Below w.heap.size w w' := by
  have hu37 := Tryz.underlying37
  have HR0_1 := Aside0.mk hr0_1
  have HC0_1 := Aside0.mk hc0_1
  clear hr0_1 hc0_1
  have HB := Aside0.mk (Below.refl w.heap.size w)
  have H : (spec_LikeOK.l0 k 0 a0_0 l0_1 a0_2 a0_3) = some r := h
  clear h
  have H' := Aside0.mk H
  clear H
  go_enter Tryz.func37, Tryz.ntmps37
  go_wp2_with (first | ((with_reducible refine gate_dst (N := 1) rfl ?_); refine box_event ?hg (N := 1) ?hd (cs := #[.bool a0_0, .slice A0_1 l0_1.length c0_1, .string a0_2, .string a0_3]) (t := 37) ?hr ?_; (case hd => rfl); (case hg => rfl); (case hr => first | (go_simp; done) | (go_simp; rfl)); intro gb159 hg w2 hbox hb; have n0_ := Aside0.mk (below_step (by repeat (first | (with_reducible first | exact HB.out | apply below_alloc | apply pw_below_drewN | apply below_drew1) | exact HB.out)) hb); have n1_ := Aside0.mk (hbox); have n2_ := Aside0.mk ((by rw [hg]; exact (below_size (by repeat (first | (with_reducible first | exact HB.out | apply below_alloc | apply pw_below_drewN | apply below_drew1) | exact HB.out))) : w.heap.size ≤ gb159)); have n3_ := Aside0.mk ((by rw [hg]; exact (below_size (by repeat (first | (with_reducible first | exact HB.out | apply below_alloc | apply pw_below_drewN | apply below_drew1) | exact HB.out))) : w.heap.size ≤ gb159)); clear HB; have HB := n0_; have BK159 := n1_; have GW159 := n2_; have GE159 := n3_; clear n0_ n1_ n2_ n3_; clear hb hbox hg))
  go_loopg [3] k (fun kq v3 w' => ∃ (x3_1 : Int), v3 = .int .i64 x3_1 ∧ Aside0 (spec_LikeOK.l0 kq x3_1 a0_0 l0_1 a0_2 a0_3 = some r) ∧ Aside0 (kq ≤ k) ∧ Aside0 (w'.heap[gb159]? = some (.cells #[.bool a0_0, (.slice A0_1 l0_1.length c0_1), .string a0_2, .string a0_3] 37 (0, 0))) ∧ Aside0 (Below w.heap.size w w'))
  case atStart => exact ⟨(0), (by first | rfl | (simp; done) | (simp [*]; done) | (simp [bne_nil_]; done)), H', ⟨Nat.le_refl _⟩, ⟨by (with_reducible repeat (first | refine blk_drewN ?_ _ | refine blk_drew ?_ | refine blk_alloc ?_ _)); exact BK159.out⟩, ⟨by repeat (first | (with_reducible first | exact HB.out | apply below_alloc | apply pw_below_drewN | apply below_drew1 | refine below_set ?_ GE159.out) | exact HB.out)⟩⟩
  case round =>
    clear H'
    try clear p2
    obtain ⟨x3_1, rfl, HA, HK1, BK159, HB⟩ := hrel
    cases gk with
    | zero => exact absurd HA.out (by simp [spec_LikeOK.l0])
    | succ k1 =>
      have H := HA.out
      clear HA
      simp only [spec_LikeOK.l0] at H
      by_cases c3 : x3_1 < (l0_1.length : Int)
      · rw [if_pos c3] at H
        have c3b0 : decide (x3_1 < (l0_1.length : Int)) = true := decide_eq_true c3
        clear c3
        by_cases c4 : 0 ≤ x3_1
        · rw [if_pos c4] at H
          have c4b0 : decide (0 ≤ x3_1) = true := decide_eq_true c4
          clear c4
          obtain ⟨bq5, hbq5⟩ : ∃ b_ : Bool, b_ = ((rd_T64 l0_1 x3_1).f0) := ⟨_, rfl⟩
          replace H : (if bq5 = true then (some false) else (spec_LikeOK.l0 k1 (wrap64 (x3_1 + 1)) a0_0 l0_1 a0_2 a0_3)) = some r := by rw [← hbq5] at H; exact H
          have Nbq5 := Aside0.mk hbq5
          clear hbq5
          by_cases c6 : bq5 = true
          · subst c6
            have H1 : (some false) = some r := by rw [if_pos rfl] at H; exact H
            clear H
            have H := H1
            clear H1
            obtain rfl := Option.some.inj H
            have hcz7_0 : wr.cell? ⟨gb159, 0, none⟩ = some (.bool a0_0) := (blk_cell BK159.out 0).trans rfl
            have hcz7_1 : wr.cell? ⟨gb159, 1, none⟩ = some (.slice A0_1 l0_1.length c0_1) := (blk_cell BK159.out 1).trans rfl
            have hcz7_2 : wr.cell? ⟨gb159, 2, none⟩ = some (.string a0_2) := (blk_cell BK159.out 2).trans rfl
            have hcz7_3 : wr.cell? ⟨gb159, 3, none⟩ = some (.string a0_3) := (blk_cell BK159.out 3).trans rfl
            have hfz7_0 := blk_frozen BK159.out 0
            have hfz7_1 := blk_frozen BK159.out 1
            have hfz7_2 := blk_frozen BK159.out 2
            have hfz7_3 := blk_frozen BK159.out 3
            have p160 : 0 ≤ (x3_1 : Int) := of_decide_eq_true (by first | (with_reducible assumption) | assumption)
            have q160 : x3_1 < (l0_1.length : Int) := of_decide_eq_true (by first | (with_reducible assumption) | assumption)
            obtain ⟨ad160, e160, hx160_0, hx160_1⟩ := at_T64 HR0_1.out x3_1 p160 q160
            (try rw [← Nbq5.out] at hx160_0)
            cases e160
            replace hx160_0 := (HB.out.cell (World.block_lt_of_cell? w _ hx160_0)).trans hx160_0
            replace hx160_1 := (HB.out.cell (World.block_lt_of_cell? w _ hx160_1)).trans hx160_1
            replace p160 := eq_true p160
            replace q160 := eq_true q160
            go_wp2
            go_ret
            exact ⟨by first | rfl | (simp [errW_none, errW_some] <;> rfl) | (simp [*, errW_none, errW_some] <;> rfl) | (simp [bne_nil_]; done), by repeat (first | (with_reducible first | exact HB.out | apply below_alloc | apply pw_below_drewN | apply below_drew1 | refine below_set ?_ GE159.out) | exact HB.out)⟩
          · replace c6 := Bool.eq_false_iff.mpr c6
            subst c6
            have H1 : (spec_LikeOK.l0 k1 (wrap64 (x3_1 + 1)) a0_0 l0_1 a0_2 a0_3) = some r := by rw [if_neg (show ¬ (false = true) by decide)] at H; exact H
            clear H
            have H := H1
            clear H1
            have H' := Aside0.mk H
            clear H
            have hcz8_0 : wr.cell? ⟨gb159, 0, none⟩ = some (.bool a0_0) := (blk_cell BK159.out 0).trans rfl
            have hcz8_1 : wr.cell? ⟨gb159, 1, none⟩ = some (.slice A0_1 l0_1.length c0_1) := (blk_cell BK159.out 1).trans rfl
            have hcz8_2 : wr.cell? ⟨gb159, 2, none⟩ = some (.string a0_2) := (blk_cell BK159.out 2).trans rfl
            have hcz8_3 : wr.cell? ⟨gb159, 3, none⟩ = some (.string a0_3) := (blk_cell BK159.out 3).trans rfl
            have hfz8_0 := blk_frozen BK159.out 0
            have hfz8_1 := blk_frozen BK159.out 1
            have hfz8_2 := blk_frozen BK159.out 2
            have hfz8_3 := blk_frozen BK159.out 3
            have p160 : 0 ≤ (x3_1 : Int) := of_decide_eq_true (by first | (with_reducible assumption) | assumption)
            have q160 : x3_1 < (l0_1.length : Int) := of_decide_eq_true (by first | (with_reducible assumption) | assumption)
            obtain ⟨ad160, e160, hx160_0, hx160_1⟩ := at_T64 HR0_1.out x3_1 p160 q160
            (try rw [← Nbq5.out] at hx160_0)
            cases e160
            replace hx160_0 := (HB.out.cell (World.block_lt_of_cell? w _ hx160_0)).trans hx160_0
            replace hx160_1 := (HB.out.cell (World.block_lt_of_cell? w _ hx160_1)).trans hx160_1
            replace p160 := eq_true p160
            replace q160 := eq_true q160
            go_wp2
            go_roundg k1
            case measure => have := HK1.out; omega
            case rel => exact ⟨(wrap64 (x3_1 + 1)), (by first | rfl | (simp; done) | (simp [*]; done) | (simp [bne_nil_]; done)), H', ⟨by have := HK1.out; omega⟩, ⟨by (with_reducible repeat (first | refine blk_drewN ?_ _ | refine blk_drew ?_ | refine blk_alloc ?_ _)); exact BK159.out⟩, ⟨by repeat (first | (with_reducible first | exact HB.out | apply below_alloc | apply pw_below_drewN | apply below_drew1 | refine below_set ?_ GE159.out) | exact HB.out)⟩⟩
        · rw [if_neg c4] at H
          exact absurd H (by simp)
      · rw [if_neg c3] at H
        have c3b0 : decide (x3_1 < (l0_1.length : Int)) = false := decide_eq_false c3
        clear c3
        replace H := Option.bind_eq_some_iff.mp H
        obtain ⟨t161, A90, H⟩ := H
        replace H : (if t161 = true then ((spec_BuildKnown.f k1 a0_2).bind fun t162 => (if t162 = true then (if a0_2.toList = ([] : List UInt8) then (some true) else (if 0 < (a0_2.size : Int) then ((spec_isDigit.f (bt a0_2 0)).bind fun t163 => (if t163 = true then (some false) else (some ((bt a0_2 0) != 46)))) else (none))) else (some false))) else (some false)) = some r := H
        have A9 := Aside0.mk A90
        clear A90
        by_cases c10 : t161 = true
        · subst c10
          have H1 : ((spec_BuildKnown.f k1 a0_2).bind fun t162 => (if t162 = true then (if a0_2.toList = ([] : List UInt8) then (some true) else (if 0 < (a0_2.size : Int) then ((spec_isDigit.f (bt a0_2 0)).bind fun t163 => (if t163 = true then (some false) else (some ((bt a0_2 0) != 46)))) else (none))) else (some false))) = some r := by rw [if_pos rfl] at H; exact H
          clear H
          have H := H1
          clear H1
          replace H := Option.bind_eq_some_iff.mp H
          obtain ⟨t162, A110, H⟩ := H
          replace H : (if t162 = true then (if a0_2.toList = ([] : List UInt8) then (some true) else (if 0 < (a0_2.size : Int) then ((spec_isDigit.f (bt a0_2 0)).bind fun t163 => (if t163 = true then (some false) else (some ((bt a0_2 0) != 46)))) else (none))) else (some false)) = some r := H
          have A11 := Aside0.mk A110
          clear A110
          by_cases c12 : t162 = true
          · subst c12
            have H1 : (if a0_2.toList = ([] : List UInt8) then (some true) else (if 0 < (a0_2.size : Int) then ((spec_isDigit.f (bt a0_2 0)).bind fun t163 => (if t163 = true then (some false) else (some ((bt a0_2 0) != 46)))) else (none))) = some r := by rw [if_pos rfl] at H; exact H
            clear H
            have H := H1
            clear H1
            by_cases c13 : a0_2.toList = ([] : List UInt8)
            · rw [if_pos c13] at H
              have c13b0 : (a0_2.toList == ([] : List UInt8)) = true := beq_iff_eq.mpr c13
              have c13b1 : (a0_2.toList != ([] : List UInt8)) = false := bne_eq_false_iff_eq.mpr c13
              clear c13
              obtain rfl := Option.some.inj H
              have hcz14_0 : wr.cell? ⟨gb159, 0, none⟩ = some (.bool a0_0) := (blk_cell BK159.out 0).trans rfl
              have hcz14_1 : wr.cell? ⟨gb159, 1, none⟩ = some (.slice A0_1 l0_1.length c0_1) := (blk_cell BK159.out 1).trans rfl
              have hcz14_2 : wr.cell? ⟨gb159, 2, none⟩ = some (.string a0_2) := (blk_cell BK159.out 2).trans rfl
              have hcz14_3 : wr.cell? ⟨gb159, 3, none⟩ = some (.string a0_3) := (blk_cell BK159.out 3).trans rfl
              have hfz14_0 := blk_frozen BK159.out 0
              have hfz14_1 := blk_frozen BK159.out 1
              have hfz14_2 := blk_frozen BK159.out 2
              have hfz14_3 := blk_frozen BK159.out 3
              go_wp2_with (first | ((with_reducible refine gate_callee (f := 58) rfl ?_); refine goesL_ (some 19) rfl rfl Tryz.func58 (by kernel_rfl) rfl #[.slice A0_1 l0_1.length c0_1] rfl (by (try simp only [List.map_toArray, List.map_cons, List.map_nil]); first | done | rfl | (simp only [List.length_drop, List.length_take]; rfl)) ?_; (with_reducible refine (spec_IntsOK.calls k1 _ _ l0_1 true _ ?side1 ?side2 A9.out).mono ?_); (case side1 => repeat (first | exact (Kd.C_below HR0_1.out HB.out) | (with_reducible refine Kd.C_alloc ?_ _) | (with_reducible refine Kd.C_drewN ?_ _) | (with_reducible refine Kd.C_drew ?_))); (case side2 => exact HC0_1.out); rintro e w15 ⟨rfl, hb⟩; refine ⟨_, rfl, ?_⟩; have n0_ := Aside0.mk (blk_below (g := gb159) (o := .cells #[.bool a0_0, .slice A0_1 l0_1.length c0_1, .string a0_2, .string a0_3] 37 (0, 0)) (by (with_reducible repeat (first | refine blk_drewN ?_ _ | refine blk_drew ?_ | refine blk_alloc ?_ _)); exact BK159.out) hb); have n1_ := Aside0.mk (below_step (by repeat (first | (with_reducible first | exact HB.out | apply below_alloc | apply pw_below_drewN | apply below_drew1 | refine below_set ?_ GE159.out) | exact HB.out)) hb); clear BK159; clear HB; have BK159 := n0_; have HB := n1_; clear n0_ n1_; (try clear hb); (try clear hb2); (try clear hk); (try clear hi); have hcz16_0 : w15.cell? ⟨gb159, 0, none⟩ = some (.bool a0_0) := (blk_cell BK159.out 0).trans rfl; have hcz16_1 : w15.cell? ⟨gb159, 1, none⟩ = some (.slice A0_1 l0_1.length c0_1) := (blk_cell BK159.out 1).trans rfl; have hcz16_2 : w15.cell? ⟨gb159, 2, none⟩ = some (.string a0_2) := (blk_cell BK159.out 2).trans rfl; have hcz16_3 : w15.cell? ⟨gb159, 3, none⟩ = some (.string a0_3) := (blk_cell BK159.out 3).trans rfl; have hfz16_0 := blk_frozen BK159.out 0; have hfz16_1 := blk_frozen BK159.out 1; have hfz16_2 := blk_frozen BK159.out 2; have hfz16_3 := blk_frozen BK159.out 3) | (go_at_call 59; (with_reducible refine (spec_BuildKnown.calls k1 a0_2 true _ A11.out).mono ?_); rintro e w17 ⟨rfl, hb⟩; have n0_ := Aside0.mk (blk_below (g := gb159) (o := .cells #[.bool a0_0, .slice A0_1 l0_1.length c0_1, .string a0_2, .string a0_3] 37 (0, 0)) (by (with_reducible repeat (first | refine blk_drewN ?_ _ | refine blk_drew ?_ | refine blk_alloc ?_ _)); exact BK159.out) hb); have n1_ := Aside0.mk (below_step (by repeat (first | (with_reducible first | exact HB.out | apply below_alloc | apply pw_below_drewN | apply below_drew1 | refine below_set ?_ GE159.out) | exact HB.out)) hb); clear BK159; clear HB; have BK159 := n0_; have HB := n1_; clear n0_ n1_; (try clear hb); (try clear hb2); (try clear hk); (try clear hi); have hcz18_0 : w17.cell? ⟨gb159, 0, none⟩ = some (.bool a0_0) := (blk_cell BK159.out 0).trans rfl; have hcz18_1 : w17.cell? ⟨gb159, 1, none⟩ = some (.slice A0_1 l0_1.length c0_1) := (blk_cell BK159.out 1).trans rfl; have hcz18_2 : w17.cell? ⟨gb159, 2, none⟩ = some (.string a0_2) := (blk_cell BK159.out 2).trans rfl; have hcz18_3 : w17.cell? ⟨gb159, 3, none⟩ = some (.string a0_3) := (blk_cell BK159.out 3).trans rfl; have hfz18_0 := blk_frozen BK159.out 0; have hfz18_1 := blk_frozen BK159.out 1; have hfz18_2 := blk_frozen BK159.out 2; have hfz18_3 := blk_frozen BK159.out 3))
              go_ret
              exact ⟨by first | rfl | (simp [errW_none, errW_some] <;> rfl) | (simp [*, errW_none, errW_some] <;> rfl) | (simp [bne_nil_]; done), by repeat (first | (with_reducible first | exact HB.out | apply below_alloc | apply pw_below_drewN | apply below_drew1 | refine below_set ?_ GE159.out) | exact HB.out)⟩
            · rw [if_neg c13] at H
              have c13b0 : (a0_2.toList == ([] : List UInt8)) = false := beq_eq_false_iff_ne.mpr c13
              have c13b1 : (a0_2.toList != ([] : List UInt8)) = true := bne_iff_ne.mpr c13
              by_cases c19 : 0 < (a0_2.size : Int)
              · rw [if_pos c19] at H
                have c19b0 : decide (0 < (a0_2.size : Int)) = true := decide_eq_true c19
                have c19b1 : decide (0 < a0_2.size) = true := decide_eq_true (by omega)
                clear c19
                replace H := Option.bind_eq_some_iff.mp H
                obtain ⟨t163, A210, H⟩ := H
                replace H : (if t163 = true then (some false) else (some ((bt a0_2 0) != 46))) = some r := H
                have A21 := Aside0.mk A210
                clear A210
                by_cases c22 : t163 = true
                · subst c22
                  have H1 : (some false) = some r := by rw [if_pos rfl] at H; exact H
                  clear H
                  have H := H1
                  clear H1
                  obtain rfl := Option.some.inj H
                  have hcz23_0 : wr.cell? ⟨gb159, 0, none⟩ = some (.bool a0_0) := (blk_cell BK159.out 0).trans rfl
                  have hcz23_1 : wr.cell? ⟨gb159, 1, none⟩ = some (.slice A0_1 l0_1.length c0_1) := (blk_cell BK159.out 1).trans rfl
                  have hcz23_2 : wr.cell? ⟨gb159, 2, none⟩ = some (.string a0_2) := (blk_cell BK159.out 2).trans rfl
                  have hcz23_3 : wr.cell? ⟨gb159, 3, none⟩ = some (.string a0_3) := (blk_cell BK159.out 3).trans rfl
                  have hfz23_0 := blk_frozen BK159.out 0
                  have hfz23_1 := blk_frozen BK159.out 1
                  have hfz23_2 := blk_frozen BK159.out 2
                  have hfz23_3 := blk_frozen BK159.out 3
                  go_wp2_with (first | ((with_reducible refine gate_callee (f := 58) rfl ?_); refine goesL_ (some 19) rfl rfl Tryz.func58 (by kernel_rfl) rfl #[.slice A0_1 l0_1.length c0_1] rfl (by (try simp only [List.map_toArray, List.map_cons, List.map_nil]); first | done | rfl | (simp only [List.length_drop, List.length_take]; rfl)) ?_; (with_reducible refine (spec_IntsOK.calls k1 _ _ l0_1 true _ ?side1 ?side2 A9.out).mono ?_); (case side1 => repeat (first | exact (Kd.C_below HR0_1.out HB.out) | (with_reducible refine Kd.C_alloc ?_ _) | (with_reducible refine Kd.C_drewN ?_ _) | (with_reducible refine Kd.C_drew ?_))); (case side2 => exact HC0_1.out); rintro e w24 ⟨rfl, hb⟩; refine ⟨_, rfl, ?_⟩; have n0_ := Aside0.mk (blk_below (g := gb159) (o := .cells #[.bool a0_0, .slice A0_1 l0_1.length c0_1, .string a0_2, .string a0_3] 37 (0, 0)) (by (with_reducible repeat (first | refine blk_drewN ?_ _ | refine blk_drew ?_ | refine blk_alloc ?_ _)); exact BK159.out) hb); have n1_ := Aside0.mk (below_step (by repeat (first | (with_reducible first | exact HB.out | apply below_alloc | apply pw_below_drewN | apply below_drew1 | refine below_set ?_ GE159.out) | exact HB.out)) hb); clear BK159; clear HB; have BK159 := n0_; have HB := n1_; clear n0_ n1_; (try clear hb); (try clear hb2); (try clear hk); (try clear hi); have hcz25_0 : w24.cell? ⟨gb159, 0, none⟩ = some (.bool a0_0) := (blk_cell BK159.out 0).trans rfl; have hcz25_1 : w24.cell? ⟨gb159, 1, none⟩ = some (.slice A0_1 l0_1.length c0_1) := (blk_cell BK159.out 1).trans rfl; have hcz25_2 : w24.cell? ⟨gb159, 2, none⟩ = some (.string a0_2) := (blk_cell BK159.out 2).trans rfl; have hcz25_3 : w24.cell? ⟨gb159, 3, none⟩ = some (.string a0_3) := (blk_cell BK159.out 3).trans rfl; have hfz25_0 := blk_frozen BK159.out 0; have hfz25_1 := blk_frozen BK159.out 1; have hfz25_2 := blk_frozen BK159.out 2; have hfz25_3 := blk_frozen BK159.out 3) | (go_at_call 59; (with_reducible refine (spec_BuildKnown.calls k1 a0_2 true _ A11.out).mono ?_); rintro e w26 ⟨rfl, hb⟩; have n0_ := Aside0.mk (blk_below (g := gb159) (o := .cells #[.bool a0_0, .slice A0_1 l0_1.length c0_1, .string a0_2, .string a0_3] 37 (0, 0)) (by (with_reducible repeat (first | refine blk_drewN ?_ _ | refine blk_drew ?_ | refine blk_alloc ?_ _)); exact BK159.out) hb); have n1_ := Aside0.mk (below_step (by repeat (first | (with_reducible first | exact HB.out | apply below_alloc | apply pw_below_drewN | apply below_drew1 | refine below_set ?_ GE159.out) | exact HB.out)) hb); clear BK159; clear HB; have BK159 := n0_; have HB := n1_; clear n0_ n1_; (try clear hb); (try clear hb2); (try clear hk); (try clear hi); have hcz27_0 : w26.cell? ⟨gb159, 0, none⟩ = some (.bool a0_0) := (blk_cell BK159.out 0).trans rfl; have hcz27_1 : w26.cell? ⟨gb159, 1, none⟩ = some (.slice A0_1 l0_1.length c0_1) := (blk_cell BK159.out 1).trans rfl; have hcz27_2 : w26.cell? ⟨gb159, 2, none⟩ = some (.string a0_2) := (blk_cell BK159.out 2).trans rfl; have hcz27_3 : w26.cell? ⟨gb159, 3, none⟩ = some (.string a0_3) := (blk_cell BK159.out 3).trans rfl; have hfz27_0 := blk_frozen BK159.out 0; have hfz27_1 := blk_frozen BK159.out 1; have hfz27_2 := blk_frozen BK159.out 2; have hfz27_3 := blk_frozen BK159.out 3; have p20 : 0 ≤ (0 : Int) := (by omega); have q20 : 0 < a0_2.size := (by have : (0 : Int) < (a0_2.size : Int) := of_decide_eq_true (by first | (with_reducible assumption) | assumption); omega); have hx20 : ∀ h : 0 < a0_2.size, ((a0_2[0]'h).toNat : Int) = bt a0_2 0 := bt_at a0_2 0; clear p20; have qi20 : (0 < (a0_2.size : Int)) = True := eq_true (of_decide_eq_true (by first | (with_reducible assumption) | assumption)); replace q20 := eq_true q20) | (go_at_call 38; (with_reducible refine (spec_isDigit.calls (bt a0_2 0) true _ A21.out).mono ?_); rintro e w' ⟨rfl, ⟨nd, rfl⟩⟩))
                  go_ret
                  exact ⟨by first | rfl | (simp [errW_none, errW_some] <;> rfl) | (simp [*, errW_none, errW_some] <;> rfl) | (simp [bne_nil_]; done), by repeat (first | (with_reducible first | exact HB.out | apply below_alloc | apply pw_below_drewN | apply below_drew1 | refine below_set ?_ GE159.out) | exact HB.out)⟩
                · replace c22 := Bool.eq_false_iff.mpr c22
                  subst c22
                  have H1 : (some ((bt a0_2 0) != 46)) = some r := by rw [if_neg (show ¬ (false = true) by decide)] at H; exact H
                  clear H
                  have H := H1
                  clear H1
                  obtain rfl := Option.some.inj H
                  have hcz29_0 : wr.cell? ⟨gb159, 0, none⟩ = some (.bool a0_0) := (blk_cell BK159.out 0).trans rfl
                  have hcz29_1 : wr.cell? ⟨gb159, 1, none⟩ = some (.slice A0_1 l0_1.length c0_1) := (blk_cell BK159.out 1).trans rfl
                  have hcz29_2 : wr.cell? ⟨gb159, 2, none⟩ = some (.string a0_2) := (blk_cell BK159.out 2).trans rfl
                  have hcz29_3 : wr.cell? ⟨gb159, 3, none⟩ = some (.string a0_3) := (blk_cell BK159.out 3).trans rfl
                  have hfz29_0 := blk_frozen BK159.out 0
                  have hfz29_1 := blk_frozen BK159.out 1
                  have hfz29_2 := blk_frozen BK159.out 2
                  have hfz29_3 := blk_frozen BK159.out 3
                  go_wp2_with (first | ((with_reducible refine gate_callee (f := 58) rfl ?_); refine goesL_ (some 19) rfl rfl Tryz.func58 (by kernel_rfl) rfl #[.slice A0_1 l0_1.length c0_1] rfl (by (try simp only [List.map_toArray, List.map_cons, List.map_nil]); first | done | rfl | (simp only [List.length_drop, List.length_take]; rfl)) ?_; (with_reducible refine (spec_IntsOK.calls k1 _ _ l0_1 true _ ?side1 ?side2 A9.out).mono ?_); (case side1 => repeat (first | exact (Kd.C_below HR0_1.out HB.out) | (with_reducible refine Kd.C_alloc ?_ _) | (with_reducible refine Kd.C_drewN ?_ _) | (with_reducible refine Kd.C_drew ?_))); (case side2 => exact HC0_1.out); rintro e w30 ⟨rfl, hb⟩; refine ⟨_, rfl, ?_⟩; have n0_ := Aside0.mk (blk_below (g := gb159) (o := .cells #[.bool a0_0, .slice A0_1 l0_1.length c0_1, .string a0_2, .string a0_3] 37 (0, 0)) (by (with_reducible repeat (first | refine blk_drewN ?_ _ | refine blk_drew ?_ | refine blk_alloc ?_ _)); exact BK159.out) hb); have n1_ := Aside0.mk (below_step (by repeat (first | (with_reducible first | exact HB.out | apply below_alloc | apply pw_below_drewN | apply below_drew1 | refine below_set ?_ GE159.out) | exact HB.out)) hb); clear BK159; clear HB; have BK159 := n0_; have HB := n1_; clear n0_ n1_; (try clear hb); (try clear hb2); (try clear hk); (try clear hi); have hcz31_0 : w30.cell? ⟨gb159, 0, none⟩ = some (.bool a0_0) := (blk_cell BK159.out 0).trans rfl; have hcz31_1 : w30.cell? ⟨gb159, 1, none⟩ = some (.slice A0_1 l0_1.length c0_1) := (blk_cell BK159.out 1).trans rfl; have hcz31_2 : w30.cell? ⟨gb159, 2, none⟩ = some (.string a0_2) := (blk_cell BK159.out 2).trans rfl; have hcz31_3 : w30.cell? ⟨gb159, 3, none⟩ = some (.string a0_3) := (blk_cell BK159.out 3).trans rfl; have hfz31_0 := blk_frozen BK159.out 0; have hfz31_1 := blk_frozen BK159.out 1; have hfz31_2 := blk_frozen BK159.out 2; have hfz31_3 := blk_frozen BK159.out 3) | (go_at_call 59; (with_reducible refine (spec_BuildKnown.calls k1 a0_2 true _ A11.out).mono ?_); rintro e w32 ⟨rfl, hb⟩; have n0_ := Aside0.mk (blk_below (g := gb159) (o := .cells #[.bool a0_0, .slice A0_1 l0_1.length c0_1, .string a0_2, .string a0_3] 37 (0, 0)) (by (with_reducible repeat (first | refine blk_drewN ?_ _ | refine blk_drew ?_ | refine blk_alloc ?_ _)); exact BK159.out) hb); have n1_ := Aside0.mk (below_step (by repeat (first | (with_reducible first | exact HB.out | apply below_alloc | apply pw_below_drewN | apply below_drew1 | refine below_set ?_ GE159.out) | exact HB.out)) hb); clear BK159; clear HB; have BK159 := n0_; have HB := n1_; clear n0_ n1_; (try clear hb); (try clear hb2); (try clear hk); (try clear hi); have hcz33_0 : w32.cell? ⟨gb159, 0, none⟩ = some (.bool a0_0) := (blk_cell BK159.out 0).trans rfl; have hcz33_1 : w32.cell? ⟨gb159, 1, none⟩ = some (.slice A0_1 l0_1.length c0_1) := (blk_cell BK159.out 1).trans rfl; have hcz33_2 : w32.cell? ⟨gb159, 2, none⟩ = some (.string a0_2) := (blk_cell BK159.out 2).trans rfl; have hcz33_3 : w32.cell? ⟨gb159, 3, none⟩ = some (.string a0_3) := (blk_cell BK159.out 3).trans rfl; have hfz33_0 := blk_frozen BK159.out 0; have hfz33_1 := blk_frozen BK159.out 1; have hfz33_2 := blk_frozen BK159.out 2; have hfz33_3 := blk_frozen BK159.out 3; have p20 : 0 ≤ (0 : Int) := (by omega); have q20 : 0 < a0_2.size := (by have : (0 : Int) < (a0_2.size : Int) := of_decide_eq_true (by first | (with_reducible assumption) | assumption); omega); have hx20 : ∀ h : 0 < a0_2.size, ((a0_2[0]'h).toNat : Int) = bt a0_2 0 := bt_at a0_2 0; clear p20; have qi20 : (0 < (a0_2.size : Int)) = True := eq_true (of_decide_eq_true (by first | (with_reducible assumption) | assumption)); replace q20 := eq_true q20) | (go_at_call 38; (with_reducible refine (spec_isDigit.calls (bt a0_2 0) false _ A21.out).mono ?_); rintro e w' ⟨rfl, ⟨nd, rfl⟩⟩; have p28 : 0 ≤ (0 : Int) := (by omega); have q28 : 0 < a0_2.size := (by have : (0 : Int) < (a0_2.size : Int) := of_decide_eq_true (by first | (with_reducible assumption) | assumption); omega); have hx28 : ∀ h : 0 < a0_2.size, ((a0_2[0]'h).toNat : Int) = bt a0_2 0 := bt_at a0_2 0; clear p28; have qi28 : (0 < (a0_2.size : Int)) = True := eq_true (of_decide_eq_true (by first | (with_reducible assumption) | assumption)); replace q28 := eq_true q28))
                  go_ret
                  exact ⟨by first | rfl | (simp [errW_none, errW_some] <;> rfl) | (simp [*, errW_none, errW_some] <;> rfl) | (simp [bne_nil_]; done), by repeat (first | (with_reducible first | exact HB.out | apply below_alloc | apply pw_below_drewN | apply below_drew1 | refine below_set ?_ GE159.out) | exact HB.out)⟩
              · rw [if_neg c19] at H
                exact absurd H (by simp)
          · replace c12 := Bool.eq_false_iff.mpr c12
            subst c12
            have H1 : (some false) = some r := by rw [if_neg (show ¬ (false = true) by decide)] at H; exact H
            clear H
            have H := H1
            clear H1
            obtain rfl := Option.some.inj H
            have hcz34_0 : wr.cell? ⟨gb159, 0, none⟩ = some (.bool a0_0) := (blk_cell BK159.out 0).trans rfl
            have hcz34_1 : wr.cell? ⟨gb159, 1, none⟩ = some (.slice A0_1 l0_1.length c0_1) := (blk_cell BK159.out 1).trans rfl
            have hcz34_2 : wr.cell? ⟨gb159, 2, none⟩ = some (.string a0_2) := (blk_cell BK159.out 2).trans rfl
            have hcz34_3 : wr.cell? ⟨gb159, 3, none⟩ = some (.string a0_3) := (blk_cell BK159.out 3).trans rfl
            have hfz34_0 := blk_frozen BK159.out 0
            have hfz34_1 := blk_frozen BK159.out 1
            have hfz34_2 := blk_frozen BK159.out 2
            have hfz34_3 := blk_frozen BK159.out 3
            go_wp2_with (first | ((with_reducible refine gate_callee (f := 58) rfl ?_); refine goesL_ (some 19) rfl rfl Tryz.func58 (by kernel_rfl) rfl #[.slice A0_1 l0_1.length c0_1] rfl (by (try simp only [List.map_toArray, List.map_cons, List.map_nil]); first | done | rfl | (simp only [List.length_drop, List.length_take]; rfl)) ?_; (with_reducible refine (spec_IntsOK.calls k1 _ _ l0_1 true _ ?side1 ?side2 A9.out).mono ?_); (case side1 => repeat (first | exact (Kd.C_below HR0_1.out HB.out) | (with_reducible refine Kd.C_alloc ?_ _) | (with_reducible refine Kd.C_drewN ?_ _) | (with_reducible refine Kd.C_drew ?_))); (case side2 => exact HC0_1.out); rintro e w35 ⟨rfl, hb⟩; refine ⟨_, rfl, ?_⟩; have n0_ := Aside0.mk (blk_below (g := gb159) (o := .cells #[.bool a0_0, .slice A0_1 l0_1.length c0_1, .string a0_2, .string a0_3] 37 (0, 0)) (by (with_reducible repeat (first | refine blk_drewN ?_ _ | refine blk_drew ?_ | refine blk_alloc ?_ _)); exact BK159.out) hb); have n1_ := Aside0.mk (below_step (by repeat (first | (with_reducible first | exact HB.out | apply below_alloc | apply pw_below_drewN | apply below_drew1 | refine below_set ?_ GE159.out) | exact HB.out)) hb); clear BK159; clear HB; have BK159 := n0_; have HB := n1_; clear n0_ n1_; (try clear hb); (try clear hb2); (try clear hk); (try clear hi); have hcz36_0 : w35.cell? ⟨gb159, 0, none⟩ = some (.bool a0_0) := (blk_cell BK159.out 0).trans rfl; have hcz36_1 : w35.cell? ⟨gb159, 1, none⟩ = some (.slice A0_1 l0_1.length c0_1) := (blk_cell BK159.out 1).trans rfl; have hcz36_2 : w35.cell? ⟨gb159, 2, none⟩ = some (.string a0_2) := (blk_cell BK159.out 2).trans rfl; have hcz36_3 : w35.cell? ⟨gb159, 3, none⟩ = some (.string a0_3) := (blk_cell BK159.out 3).trans rfl; have hfz36_0 := blk_frozen BK159.out 0; have hfz36_1 := blk_frozen BK159.out 1; have hfz36_2 := blk_frozen BK159.out 2; have hfz36_3 := blk_frozen BK159.out 3) | (go_at_call 59; (with_reducible refine (spec_BuildKnown.calls k1 a0_2 false _ A11.out).mono ?_); rintro e w37 ⟨rfl, hb⟩; have n0_ := Aside0.mk (blk_below (g := gb159) (o := .cells #[.bool a0_0, .slice A0_1 l0_1.length c0_1, .string a0_2, .string a0_3] 37 (0, 0)) (by (with_reducible repeat (first | refine blk_drewN ?_ _ | refine blk_drew ?_ | refine blk_alloc ?_ _)); exact BK159.out) hb); have n1_ := Aside0.mk (below_step (by repeat (first | (with_reducible first | exact HB.out | apply below_alloc | apply pw_below_drewN | apply below_drew1 | refine below_set ?_ GE159.out) | exact HB.out)) hb); clear BK159; clear HB; have BK159 := n0_; have HB := n1_; clear n0_ n1_; (try clear hb); (try clear hb2); (try clear hk); (try clear hi)))
            go_ret
            exact ⟨by first | rfl | (simp [errW_none, errW_some] <;> rfl) | (simp [*, errW_none, errW_some] <;> rfl) | (simp [bne_nil_]; done), by repeat (first | (with_reducible first | exact HB.out | apply below_alloc | apply pw_below_drewN | apply below_drew1 | refine below_set ?_ GE159.out) | exact HB.out)⟩
        · replace c10 := Bool.eq_false_iff.mpr c10
          subst c10
          have H1 : (some false) = some r := by rw [if_neg (show ¬ (false = true) by decide)] at H; exact H
          clear H
          have H := H1
          clear H1
          obtain rfl := Option.some.inj H
          have hcz38_0 : wr.cell? ⟨gb159, 0, none⟩ = some (.bool a0_0) := (blk_cell BK159.out 0).trans rfl
          have hcz38_1 : wr.cell? ⟨gb159, 1, none⟩ = some (.slice A0_1 l0_1.length c0_1) := (blk_cell BK159.out 1).trans rfl
          have hcz38_2 : wr.cell? ⟨gb159, 2, none⟩ = some (.string a0_2) := (blk_cell BK159.out 2).trans rfl
          have hcz38_3 : wr.cell? ⟨gb159, 3, none⟩ = some (.string a0_3) := (blk_cell BK159.out 3).trans rfl
          have hfz38_0 := blk_frozen BK159.out 0
          have hfz38_1 := blk_frozen BK159.out 1
          have hfz38_2 := blk_frozen BK159.out 2
          have hfz38_3 := blk_frozen BK159.out 3
          go_wp2_with (first | ((with_reducible refine gate_callee (f := 58) rfl ?_); refine goesL_ (some 19) rfl rfl Tryz.func58 (by kernel_rfl) rfl #[.slice A0_1 l0_1.length c0_1] rfl (by (try simp only [List.map_toArray, List.map_cons, List.map_nil]); first | done | rfl | (simp only [List.length_drop, List.length_take]; rfl)) ?_; (with_reducible refine (spec_IntsOK.calls k1 _ _ l0_1 false _ ?side1 ?side2 A9.out).mono ?_); (case side1 => repeat (first | exact (Kd.C_below HR0_1.out HB.out) | (with_reducible refine Kd.C_alloc ?_ _) | (with_reducible refine Kd.C_drewN ?_ _) | (with_reducible refine Kd.C_drew ?_))); (case side2 => exact HC0_1.out); rintro e w39 ⟨rfl, hb⟩; refine ⟨_, rfl, ?_⟩; have n0_ := Aside0.mk (blk_below (g := gb159) (o := .cells #[.bool a0_0, .slice A0_1 l0_1.length c0_1, .string a0_2, .string a0_3] 37 (0, 0)) (by (with_reducible repeat (first | refine blk_drewN ?_ _ | refine blk_drew ?_ | refine blk_alloc ?_ _)); exact BK159.out) hb); have n1_ := Aside0.mk (below_step (by repeat (first | (with_reducible first | exact HB.out | apply below_alloc | apply pw_below_drewN | apply below_drew1 | refine below_set ?_ GE159.out) | exact HB.out)) hb); clear BK159; clear HB; have BK159 := n0_; have HB := n1_; clear n0_ n1_; (try clear hb); (try clear hb2); (try clear hk); (try clear hi)))
          go_ret
          exact ⟨by first | rfl | (simp [errW_none, errW_some] <;> rfl) | (simp [*, errW_none, errW_some] <;> rfl) | (simp [bne_nil_]; done), by repeat (first | (with_reducible first | exact HB.out | apply below_alloc | apply pw_below_drewN | apply below_drew1 | refine below_set ?_ GE159.out) | exact HB.out)⟩

/-! ### laws_likes: function 18 -/
def laws_likes.l0 : Nat → List (S37) → Int → Int → Option (Bool)
  | 0, _, _, _ => none
  | k + 1, x5, x6, x7 => if x7 < x6 then (if 0 ≤ x7 then (if x7 < (x5.length : Int) then ((laws_short.f k (([(rd_T37 x5 x7).f2, (rd_T37 x5 x7).f3] : List ByteArray))).bind fun t169 => (if t169 = true then ((laws_numbers.f k ((rd_T37 x5 x7).f1)).bind fun t170 => (if t170 = true then ((spec_LikeOK.f k ((rd_T37 x5 x7).f0) ((rd_T37 x5 x7).f1) ((rd_T37 x5 x7).f2) ((rd_T37 x5 x7).f3)).bind fun t171 => (if t171 = true then (laws_likes.l0 k x5 x6 (wrap64 (x7 + 1))) else (some false))) else (some false))) else (some false))) else (none)) else (none)) else (some true)
def laws_likes.f (k : Nat) (l0 : List (S37)) : Option (Bool) := laws_likes.l0 k l0 (l0.length : Int) 0
theorem laws_likes.mono_l : ∀ k, (∀ y0 y1 y2, LeO (laws_likes.l0 k y0 y1 y2) (laws_likes.l0 (k + 1) y0 y1 y2))
  | 0 => fun _ _ _ r h => by simp [laws_likes.l0] at h
  | k + 1 => by
    have ih0 := laws_likes.mono_l k
    · intro y0 y1 y2
      unfold laws_likes.l0
      repeat' first
      | (with_reducible exact ih0 _ _ _)
      | (with_reducible exact laws_numbers.mono _ _)
      | (with_reducible exact laws_short.mono _ _)
      | (with_reducible exact spec_LikeOK.mono _ _ _ _ _)
      | (with_reducible exact LeO.refl _)
      | (with_reducible exact LeO.none _)
      | (with_reducible refine LeO.ite ?_ ?_)
      | (with_reducible refine LeO.bind ?_ (fun _ => ?_))
      | exact ih0 _ _ _
      | exact laws_numbers.mono _ _
      | exact laws_short.mono _ _
      | exact spec_LikeOK.mono _ _ _ _ _
      | exact LeO.none _
      | refine LeO.ite ?_ ?_
      | refine LeO.bind ?_ (fun _ => ?_)
theorem laws_likes.mono : ∀ a0 k, LeO (laws_likes.f k a0) (laws_likes.f (k + 1) a0) := by
  intro a0 k
  have ih0 := laws_likes.mono_l k
  unfold laws_likes.f
  repeat' first
      | (with_reducible exact ih0 _ _ _)
      | (with_reducible exact laws_numbers.mono _ _)
      | (with_reducible exact laws_short.mono _ _)
      | (with_reducible exact spec_LikeOK.mono _ _ _ _ _)
      | (with_reducible exact LeO.refl _)
      | (with_reducible exact LeO.none _)
      | (with_reducible refine LeO.ite ?_ ?_)
      | (with_reducible refine LeO.bind ?_ (fun _ => ?_))
      | exact ih0 _ _ _
      | exact laws_numbers.mono _ _
      | exact laws_short.mono _ _
      | exact spec_LikeOK.mono _ _ _ _ _
      | exact LeO.none _
      | refine LeO.ite ?_ ?_
      | refine LeO.bind ?_ (fun _ => ?_)
set_option maxHeartbeats 8000000 in
set_option maxRecDepth 100000 in
theorem laws_likes.calls (k : Nat) (A0 : Option Addr) (c0 : Nat) (l0 : List (S37)) (r : Bool) (w : World) (hr0 : Kd.C k37 w A0 l0.length l0) (hc0 : l0.length ≤ c0) (h : laws_likes.f k l0 = some r) :
    Calls Tryz.prog 18 #[.slice A0 l0.length c0] w fun e w' => e = .returned (.bool r) ∧ Below w.heap.size w w' := by
  have hu37 := Tryz.underlying37
  have HR0 := Aside0.mk hr0
  have HC0 := Aside0.mk hc0
  clear hr0 hc0
  have HB := Aside0.mk (Below.refl w.heap.size w)
  have H : (laws_likes.l0 k l0 (l0.length : Int) 0) = some r := h
  clear h
  have H' := Aside0.mk H
  clear H
  go_enter Tryz.func18, Tryz.ntmps18
  go_wp2
  go_loopg [7] k (fun kq v7 w' => ∃ (x7_1 : Int), v7 = .int .i64 x7_1 ∧ Aside0 (laws_likes.l0 kq l0 (l0.length : Int) x7_1 = some r) ∧ Aside0 (kq ≤ k) ∧ Aside0 (Below w.heap.size w w'))
  case atStart => exact ⟨(0), (by first | rfl | (simp; done) | (simp [*]; done) | (simp [bne_nil_]; done)), H', ⟨Nat.le_refl _⟩, ⟨by repeat (first | (with_reducible first | exact HB.out | apply below_alloc | apply pw_below_drewN | apply below_drew1) | exact HB.out)⟩⟩
  case round =>
    clear H'
    try clear c1
    obtain ⟨x7_1, rfl, HA, HK1, HB⟩ := hrel
    cases gk with
    | zero => exact absurd HA.out (by simp [laws_likes.l0])
    | succ k1 =>
      have H := HA.out
      clear HA
      simp only [laws_likes.l0] at H
      by_cases c2 : x7_1 < (l0.length : Int)
      · rw [if_pos c2] at H
        have c2b0 : decide (x7_1 < (l0.length : Int)) = true := decide_eq_true c2
        clear c2
        by_cases c3 : 0 ≤ x7_1
        · rw [if_pos c3] at H
          have c3b0 : decide (0 ≤ x7_1) = true := decide_eq_true c3
          clear c3
          by_cases c4 : x7_1 < (l0.length : Int)
          · rw [if_pos c4] at H
            have c4b0 : decide (x7_1 < (l0.length : Int)) = true := decide_eq_true c4
            clear c4
            obtain ⟨y166, hy166⟩ : ∃ y_ : List ByteArray, y_ = (([(rd_T37 l0 x7_1).f2, (rd_T37 l0 x7_1).f3] : List ByteArray)) := ⟨_, rfl⟩
            replace H : ((laws_short.f k1 y166).bind fun t169 => (if t169 = true then ((laws_numbers.f k1 ((rd_T37 l0 x7_1).f1)).bind fun t170 => (if t170 = true then ((spec_LikeOK.f k1 ((rd_T37 l0 x7_1).f0) ((rd_T37 l0 x7_1).f1) ((rd_T37 l0 x7_1).f2) ((rd_T37 l0 x7_1).f3)).bind fun t171 => (if t171 = true then (laws_likes.l0 k1 l0 (l0.length : Int) (wrap64 (x7_1 + 1))) else (some false))) else (some false))) else (some false))) = some r := by first | (rw [hy166]; with_reducible exact H) | (have H2_ := (Option.bind_some _ _).symm.trans H; rw [hy166]; with_reducible exact H2_) | (have H2_ := (Option.bind_some _ _).symm.trans H; with_reducible exact H2_) | with_reducible exact H | (rw [hy166]; exact H) | exact H
            have Ny166 := Aside0.mk hy166
            clear hy166
            replace H := Option.bind_eq_some_iff.mp H
            obtain ⟨t169, A50, H⟩ := H
            replace H : (if t169 = true then ((laws_numbers.f k1 ((rd_T37 l0 x7_1).f1)).bind fun t170 => (if t170 = true then ((spec_LikeOK.f k1 ((rd_T37 l0 x7_1).f0) ((rd_T37 l0 x7_1).f1) ((rd_T37 l0 x7_1).f2) ((rd_T37 l0 x7_1).f3)).bind fun t171 => (if t171 = true then (laws_likes.l0 k1 l0 (l0.length : Int) (wrap64 (x7_1 + 1))) else (some false))) else (some false))) else (some false)) = some r := H
            have A5 := Aside0.mk A50
            clear A50
            by_cases c6 : t169 = true
            · subst c6
              have H1 : ((laws_numbers.f k1 ((rd_T37 l0 x7_1).f1)).bind fun t170 => (if t170 = true then ((spec_LikeOK.f k1 ((rd_T37 l0 x7_1).f0) ((rd_T37 l0 x7_1).f1) ((rd_T37 l0 x7_1).f2) ((rd_T37 l0 x7_1).f3)).bind fun t171 => (if t171 = true then (laws_likes.l0 k1 l0 (l0.length : Int) (wrap64 (x7_1 + 1))) else (some false))) else (some false))) = some r := by rw [if_pos rfl] at H; exact H
              clear H
              have H := H1
              clear H1
              replace H := Option.bind_eq_some_iff.mp H
              obtain ⟨t170, A70, H⟩ := H
              replace H : (if t170 = true then ((spec_LikeOK.f k1 ((rd_T37 l0 x7_1).f0) ((rd_T37 l0 x7_1).f1) ((rd_T37 l0 x7_1).f2) ((rd_T37 l0 x7_1).f3)).bind fun t171 => (if t171 = true then (laws_likes.l0 k1 l0 (l0.length : Int) (wrap64 (x7_1 + 1))) else (some false))) else (some false)) = some r := H
              have A7 := Aside0.mk A70
              clear A70
              by_cases c8 : t170 = true
              · subst c8
                have H1 : ((spec_LikeOK.f k1 ((rd_T37 l0 x7_1).f0) ((rd_T37 l0 x7_1).f1) ((rd_T37 l0 x7_1).f2) ((rd_T37 l0 x7_1).f3)).bind fun t171 => (if t171 = true then (laws_likes.l0 k1 l0 (l0.length : Int) (wrap64 (x7_1 + 1))) else (some false))) = some r := by rw [if_pos rfl] at H; exact H
                clear H
                have H := H1
                clear H1
                replace H := Option.bind_eq_some_iff.mp H
                obtain ⟨t171, A90, H⟩ := H
                replace H : (if t171 = true then (laws_likes.l0 k1 l0 (l0.length : Int) (wrap64 (x7_1 + 1))) else (some false)) = some r := H
                have A9 := Aside0.mk A90
                clear A90
                by_cases c10 : t171 = true
                · subst c10
                  have H1 : (laws_likes.l0 k1 l0 (l0.length : Int) (wrap64 (x7_1 + 1))) = some r := by rw [if_pos rfl] at H; exact H
                  clear H
                  have H := H1
                  clear H1
                  have H' := Aside0.mk H
                  clear H
                  have p164 : 0 ≤ (x7_1 : Int) := of_decide_eq_true (by first | (with_reducible assumption) | assumption)
                  have q164 : x7_1 < (l0.length : Int) := of_decide_eq_true (by first | (with_reducible assumption) | assumption)
                  obtain ⟨ad164, A164_1, c164_1, e164, hx164_0, hx164_1, hx164_2, hx164_3, hl164_1, hi164_1⟩ := at_T37 HR0.out x7_1 p164 q164
                  cases e164
                  replace hx164_0 := (HB.out.cell (World.block_lt_of_cell? w _ hx164_0)).trans hx164_0
                  replace hx164_1 := (HB.out.cell (World.block_lt_of_cell? w _ hx164_1)).trans hx164_1
                  replace hx164_2 := (HB.out.cell (World.block_lt_of_cell? w _ hx164_2)).trans hx164_2
                  replace hx164_3 := (HB.out.cell (World.block_lt_of_cell? w _ hx164_3)).trans hx164_3
                  have HR164_1 := Aside0.mk hi164_1
                  have HC164_1 := Aside0.mk hl164_1
                  clear hi164_1 hl164_1
                  replace p164 := eq_true p164
                  replace q164 := eq_true q164
                  go_wp2_with (first | ((with_reducible refine gate_dst (N := 4) rfl ?_); refine box_event ?hg (N := 4) ?hd (cs := #[.bool false, .slice none 0 0, .string (⟨#[]⟩ : ByteArray), .string (⟨#[]⟩ : ByteArray)]) (t := 37) ?hr ?_; (case hd => rfl); (case hg => rfl); (case hr => first | (go_simp; done) | (go_simp; rfl)); intro gb165 hg w11 hbox hb; have n0_ := Aside0.mk (below_step (by repeat (first | (with_reducible first | exact HB.out | apply below_alloc | apply pw_below_drewN | apply below_drew1) | exact HB.out)) hb); have n1_ := Aside0.mk (hbox); have n2_ := Aside0.mk ((by rw [hg]; exact (below_size (by repeat (first | (with_reducible first | exact HB.out | apply below_alloc | apply pw_below_drewN | apply below_drew1) | exact HB.out))) : w.heap.size ≤ gb165)); have n3_ := Aside0.mk ((by rw [hg]; exact (below_size (by repeat (first | (with_reducible first | exact HB.out | apply below_alloc | apply pw_below_drewN | apply below_drew1) | exact HB.out))) : w.heap.size ≤ gb165)); clear HB; have HB := n0_; have BK165 := n1_; have GW165 := n2_; have GE165 := n3_; clear n0_ n1_ n2_ n3_; clear hb hbox hg; have hcz12_0 : w11.cell? ⟨gb165, 0, none⟩ = some (.bool false) := (blk_cell BK165.out 0).trans rfl; have hcz12_1 : w11.cell? ⟨gb165, 1, none⟩ = some (.slice none 0 0) := (blk_cell BK165.out 1).trans rfl; have hcz12_2 : w11.cell? ⟨gb165, 2, none⟩ = some (.string (⟨#[]⟩ : ByteArray)) := (blk_cell BK165.out 2).trans rfl; have hcz12_3 : w11.cell? ⟨gb165, 3, none⟩ = some (.string (⟨#[]⟩ : ByteArray)) := (blk_cell BK165.out 3).trans rfl; have hfz12_0 := blk_frozen BK165.out 0; have hfz12_1 := blk_frozen BK165.out 1; have hfz12_2 := blk_frozen BK165.out 2; have hfz12_3 := blk_frozen BK165.out 3) | ((with_reducible refine gate_dst (N := 15) rfl ?_); refine Kd.R_lit Kd.string _ 9 ?hg (N := 15) ?hd (xs := ([(rd_T37 l0 x7_1).f2, (rd_T37 l0 x7_1).f3] : List ByteArray)) (inner := [.string ((rd_T37 l0 x7_1).f2), .string ((rd_T37 l0 x7_1).f3)]) (ok := fun _ => True) (okp := fun _ => True) ?hr ?hp (fun _ hk => hk) trivial (Below.refl _ _) (Nat.le_refl _) (by simp) ?_; (case hd => rfl); (case hg => rfl); (case hr => first | (go_simp; done) | (go_simp; rfl)); (case hp => exact (Reps.one (show Kd.M Kd.string _ _ _ ((rd_T37 l0 x7_1).f2) [.string ((rd_T37 l0 x7_1).f2)] from rfl) (Reps.one (show Kd.M Kd.string _ _ _ ((rd_T37 l0 x7_1).f3) [.string ((rd_T37 l0 x7_1).f3)] from rfl) (Reps.none _ _)))); intro v167 w13 ho14 hb hg_ hnew_; clear hg_ hnew_; (first | rw [← Ny166.out] at ho14 | (simp only [Int.reduceToNat] at ho14; rw [← Ny166.out] at ho14)); have n0_ := Aside0.mk (Kd.R_lower ho14 (below_size (by repeat (first | (with_reducible first | exact HB.out | apply below_alloc | apply pw_below_drewN | apply below_drew1 | refine below_set ?_ GE165.out) | exact HB.out)))); have n1_ := Aside0.mk (blk_below (g := gb165) (o := .cells #[.bool ((rd_T37 l0 x7_1).f0), .slice A164_1 ((rd_T37 l0 x7_1).f1).length c164_1, .string ((rd_T37 l0 x7_1).f2), .string ((rd_T37 l0 x7_1).f3)] 37 (0, 0)) (by (with_reducible repeat (first | refine blk_drewN ?_ _ | refine blk_drew ?_ | refine blk_alloc ?_ _)); refine blk_put (cs := #[.bool ((rd_T37 l0 x7_1).f0), .slice A164_1 ((rd_T37 l0 x7_1).f1).length c164_1, .string ((rd_T37 l0 x7_1).f2), .string (⟨#[]⟩ : ByteArray)]) ?_ 3 _ rfl; (with_reducible repeat (first | refine blk_drewN ?_ _ | refine blk_drew ?_ | refine blk_alloc ?_ _)); refine blk_put (cs := #[.bool ((rd_T37 l0 x7_1).f0), .slice A164_1 ((rd_T37 l0 x7_1).f1).length c164_1, .string (⟨#[]⟩ : ByteArray), .string (⟨#[]⟩ : ByteArray)]) ?_ 2 _ rfl; (with_reducible repeat (first | refine blk_drewN ?_ _ | refine blk_drew ?_ | refine blk_alloc ?_ _)); refine blk_put (cs := #[.bool ((rd_T37 l0 x7_1).f0), .slice none 0 0, .string (⟨#[]⟩ : ByteArray), .string (⟨#[]⟩ : ByteArray)]) ?_ 1 _ rfl; (with_reducible repeat (first | refine blk_drewN ?_ _ | refine blk_drew ?_ | refine blk_alloc ?_ _)); refine blk_put (cs := #[.bool false, .slice none 0 0, .string (⟨#[]⟩ : ByteArray), .string (⟨#[]⟩ : ByteArray)]) ?_ 0 _ rfl; (with_reducible repeat (first | refine blk_drewN ?_ _ | refine blk_drew ?_ | refine blk_alloc ?_ _)); exact BK165.out) hb); have n2_ := Aside0.mk (below_step (by repeat (first | (with_reducible first | exact HB.out | apply below_alloc | apply pw_below_drewN | apply below_drew1 | refine below_set ?_ GE165.out) | exact HB.out)) hb); clear BK165; clear HB; have HO168 := n0_; have BK165 := n1_; have HB := n2_; clear n0_ n1_ n2_; clear hb ho14; obtain ⟨Ao15, co15, eo15⟩ := Kd.R_slice HO168.out; subst eo15) | ((with_reducible refine gate_callee (f := 7) rfl ?_); refine goesL_ (some 16) rfl rfl Tryz.func7 (by kernel_rfl) rfl #[.slice Ao15 y166.length co15] rfl (by (try simp only [List.map_toArray, List.map_cons, List.map_nil]); first | done | rfl | (simp only [List.length_drop, List.length_take]; rfl)) ?_; (with_reducible refine (laws_short.calls k1 _ _ y166 true _ ?side1 ?side2 A5.out).mono ?_); (case side1 => repeat (first | exact (Kd.R_reads' HO168.out).2.2 | (with_reducible refine Kd.C_alloc ?_ _) | (with_reducible refine Kd.C_drewN ?_ _) | (with_reducible refine Kd.C_drew ?_))); (case side2 => exact (Kd.R_reads' HO168.out).2.1); rintro e w' ⟨rfl, ⟨nd, rfl⟩⟩; refine ⟨_, rfl, ?_⟩; have hcz16_0 : w13.cell? ⟨gb165, 0, none⟩ = some (.bool ((rd_T37 l0 x7_1).f0)) := (blk_cell BK165.out 0).trans rfl; have hcz16_1 : w13.cell? ⟨gb165, 1, none⟩ = some (.slice A164_1 ((rd_T37 l0 x7_1).f1).length c164_1) := (blk_cell BK165.out 1).trans rfl; have hcz16_2 : w13.cell? ⟨gb165, 2, none⟩ = some (.string ((rd_T37 l0 x7_1).f2)) := (blk_cell BK165.out 2).trans rfl; have hcz16_3 : w13.cell? ⟨gb165, 3, none⟩ = some (.string ((rd_T37 l0 x7_1).f3)) := (blk_cell BK165.out 3).trans rfl; have hfz16_0 := blk_frozen BK165.out 0; have hfz16_1 := blk_frozen BK165.out 1; have hfz16_2 := blk_frozen BK165.out 2; have hfz16_3 := blk_frozen BK165.out 3) | (go_at_call 36; (with_reducible refine (laws_numbers.calls k1 _ _ ((rd_T37 l0 x7_1).f1) true _ ?side1 ?side2 A7.out).mono ?_); (case side1 => repeat (first | exact (Kd.C_below HR164_1.out (by repeat (first | (with_reducible first | exact HB.out | apply below_alloc | apply pw_below_drewN | apply below_drew1 | refine below_set ?_ GE165.out) | exact HB.out))) | (with_reducible refine Kd.C_alloc ?_ _) | (with_reducible refine Kd.C_drewN ?_ _) | (with_reducible refine Kd.C_drew ?_))); (case side2 => exact HC164_1.out); rintro e w17 ⟨rfl, hb⟩; have n0_ := Aside0.mk (Kd.R_below (by (with_reducible repeat (first | apply Kd.R_alloc | apply Kd.R_drewN | apply Kd.R_drew)); exact HO168.out) hb); have n1_ := Aside0.mk (blk_below (g := gb165) (o := .cells #[.bool ((rd_T37 l0 x7_1).f0), .slice A164_1 ((rd_T37 l0 x7_1).f1).length c164_1, .string ((rd_T37 l0 x7_1).f2), .string ((rd_T37 l0 x7_1).f3)] 37 (0, 0)) (by (with_reducible repeat (first | refine blk_drewN ?_ _ | refine blk_drew ?_ | refine blk_alloc ?_ _)); exact BK165.out) hb); have n2_ := Aside0.mk (below_step (by repeat (first | (with_reducible first | exact HB.out | apply below_alloc | apply pw_below_drewN | apply below_drew1 | refine below_set ?_ GE165.out) | exact HB.out)) hb); clear HO168; clear BK165; clear HB; have HO168 := n0_; have BK165 := n1_; have HB := n2_; clear n0_ n1_ n2_; (try clear hb); (try clear hb2); (try clear hk); (try clear hi); have hcz18_0 : w17.cell? ⟨gb165, 0, none⟩ = some (.bool ((rd_T37 l0 x7_1).f0)) := (blk_cell BK165.out 0).trans rfl; have hcz18_1 : w17.cell? ⟨gb165, 1, none⟩ = some (.slice A164_1 ((rd_T37 l0 x7_1).f1).length c164_1) := (blk_cell BK165.out 1).trans rfl; have hcz18_2 : w17.cell? ⟨gb165, 2, none⟩ = some (.string ((rd_T37 l0 x7_1).f2)) := (blk_cell BK165.out 2).trans rfl; have hcz18_3 : w17.cell? ⟨gb165, 3, none⟩ = some (.string ((rd_T37 l0 x7_1).f3)) := (blk_cell BK165.out 3).trans rfl; have hfz18_0 := blk_frozen BK165.out 0; have hfz18_1 := blk_frozen BK165.out 1; have hfz18_2 := blk_frozen BK165.out 2; have hfz18_3 := blk_frozen BK165.out 3) | (go_at_call 37; (with_reducible refine (spec_LikeOK.calls k1 ((rd_T37 l0 x7_1).f0) _ _ ((rd_T37 l0 x7_1).f1) ((rd_T37 l0 x7_1).f2) ((rd_T37 l0 x7_1).f3) true _ ?side1 ?side2 A9.out).mono ?_); (case side1 => repeat (first | exact (Kd.C_below HR164_1.out HB.out) | (with_reducible refine Kd.C_alloc ?_ _) | (with_reducible refine Kd.C_drewN ?_ _) | (with_reducible refine Kd.C_drew ?_))); (case side2 => exact HC164_1.out); rintro e w19 ⟨rfl, hb⟩; have n0_ := Aside0.mk (Kd.R_below (by (with_reducible repeat (first | apply Kd.R_alloc | apply Kd.R_drewN | apply Kd.R_drew)); exact HO168.out) hb); have n1_ := Aside0.mk (blk_below (g := gb165) (o := .cells #[.bool ((rd_T37 l0 x7_1).f0), .slice A164_1 ((rd_T37 l0 x7_1).f1).length c164_1, .string ((rd_T37 l0 x7_1).f2), .string ((rd_T37 l0 x7_1).f3)] 37 (0, 0)) (by (with_reducible repeat (first | refine blk_drewN ?_ _ | refine blk_drew ?_ | refine blk_alloc ?_ _)); exact BK165.out) hb); have n2_ := Aside0.mk (below_step (by repeat (first | (with_reducible first | exact HB.out | apply below_alloc | apply pw_below_drewN | apply below_drew1 | refine below_set ?_ GE165.out) | exact HB.out)) hb); clear HO168; clear BK165; clear HB; have HO168 := n0_; have BK165 := n1_; have HB := n2_; clear n0_ n1_ n2_; (try clear hb); (try clear hb2); (try clear hk); (try clear hi)))
                  go_roundg k1
                  case measure => have := HK1.out; omega
                  case rel => exact ⟨(wrap64 (x7_1 + 1)), (by first | rfl | (simp; done) | (simp [*]; done) | (simp [bne_nil_]; done)), H', ⟨by have := HK1.out; omega⟩, ⟨by repeat (first | (with_reducible first | exact HB.out | apply below_alloc | apply pw_below_drewN | apply below_drew1 | refine below_set ?_ GE165.out) | exact HB.out)⟩⟩
                · replace c10 := Bool.eq_false_iff.mpr c10
                  subst c10
                  have H1 : (some false) = some r := by rw [if_neg (show ¬ (false = true) by decide)] at H; exact H
                  clear H
                  have H := H1
                  clear H1
                  obtain rfl := Option.some.inj H
                  have p164 : 0 ≤ (x7_1 : Int) := of_decide_eq_true (by first | (with_reducible assumption) | assumption)
                  have q164 : x7_1 < (l0.length : Int) := of_decide_eq_true (by first | (with_reducible assumption) | assumption)
                  obtain ⟨ad164, A164_1, c164_1, e164, hx164_0, hx164_1, hx164_2, hx164_3, hl164_1, hi164_1⟩ := at_T37 HR0.out x7_1 p164 q164
                  cases e164
                  replace hx164_0 := (HB.out.cell (World.block_lt_of_cell? w _ hx164_0)).trans hx164_0
                  replace hx164_1 := (HB.out.cell (World.block_lt_of_cell? w _ hx164_1)).trans hx164_1
                  replace hx164_2 := (HB.out.cell (World.block_lt_of_cell? w _ hx164_2)).trans hx164_2
                  replace hx164_3 := (HB.out.cell (World.block_lt_of_cell? w _ hx164_3)).trans hx164_3
                  have HR164_1 := Aside0.mk hi164_1
                  have HC164_1 := Aside0.mk hl164_1
                  clear hi164_1 hl164_1
                  replace p164 := eq_true p164
                  replace q164 := eq_true q164
                  go_wp2_with (first | ((with_reducible refine gate_dst (N := 4) rfl ?_); refine box_event ?hg (N := 4) ?hd (cs := #[.bool false, .slice none 0 0, .string (⟨#[]⟩ : ByteArray), .string (⟨#[]⟩ : ByteArray)]) (t := 37) ?hr ?_; (case hd => rfl); (case hg => rfl); (case hr => first | (go_simp; done) | (go_simp; rfl)); intro gb165 hg w20 hbox hb; have n0_ := Aside0.mk (below_step (by repeat (first | (with_reducible first | exact HB.out | apply below_alloc | apply pw_below_drewN | apply below_drew1) | exact HB.out)) hb); have n1_ := Aside0.mk (hbox); have n2_ := Aside0.mk ((by rw [hg]; exact (below_size (by repeat (first | (with_reducible first | exact HB.out | apply below_alloc | apply pw_below_drewN | apply below_drew1) | exact HB.out))) : w.heap.size ≤ gb165)); have n3_ := Aside0.mk ((by rw [hg]; exact (below_size (by repeat (first | (with_reducible first | exact HB.out | apply below_alloc | apply pw_below_drewN | apply below_drew1) | exact HB.out))) : w.heap.size ≤ gb165)); clear HB; have HB := n0_; have BK165 := n1_; have GW165 := n2_; have GE165 := n3_; clear n0_ n1_ n2_ n3_; clear hb hbox hg; have hcz21_0 : w20.cell? ⟨gb165, 0, none⟩ = some (.bool false) := (blk_cell BK165.out 0).trans rfl; have hcz21_1 : w20.cell? ⟨gb165, 1, none⟩ = some (.slice none 0 0) := (blk_cell BK165.out 1).trans rfl; have hcz21_2 : w20.cell? ⟨gb165, 2, none⟩ = some (.string (⟨#[]⟩ : ByteArray)) := (blk_cell BK165.out 2).trans rfl; have hcz21_3 : w20.cell? ⟨gb165, 3, none⟩ = some (.string (⟨#[]⟩ : ByteArray)) := (blk_cell BK165.out 3).trans rfl; have hfz21_0 := blk_frozen BK165.out 0; have hfz21_1 := blk_frozen BK165.out 1; have hfz21_2 := blk_frozen BK165.out 2; have hfz21_3 := blk_frozen BK165.out 3) | ((with_reducible refine gate_dst (N := 15) rfl ?_); refine Kd.R_lit Kd.string _ 9 ?hg (N := 15) ?hd (xs := ([(rd_T37 l0 x7_1).f2, (rd_T37 l0 x7_1).f3] : List ByteArray)) (inner := [.string ((rd_T37 l0 x7_1).f2), .string ((rd_T37 l0 x7_1).f3)]) (ok := fun _ => True) (okp := fun _ => True) ?hr ?hp (fun _ hk => hk) trivial (Below.refl _ _) (Nat.le_refl _) (by simp) ?_; (case hd => rfl); (case hg => rfl); (case hr => first | (go_simp; done) | (go_simp; rfl)); (case hp => exact (Reps.one (show Kd.M Kd.string _ _ _ ((rd_T37 l0 x7_1).f2) [.string ((rd_T37 l0 x7_1).f2)] from rfl) (Reps.one (show Kd.M Kd.string _ _ _ ((rd_T37 l0 x7_1).f3) [.string ((rd_T37 l0 x7_1).f3)] from rfl) (Reps.none _ _)))); intro v167 w22 ho23 hb hg_ hnew_; clear hg_ hnew_; (first | rw [← Ny166.out] at ho23 | (simp only [Int.reduceToNat] at ho23; rw [← Ny166.out] at ho23)); have n0_ := Aside0.mk (Kd.R_lower ho23 (below_size (by repeat (first | (with_reducible first | exact HB.out | apply below_alloc | apply pw_below_drewN | apply below_drew1 | refine below_set ?_ GE165.out) | exact HB.out)))); have n1_ := Aside0.mk (blk_below (g := gb165) (o := .cells #[.bool ((rd_T37 l0 x7_1).f0), .slice A164_1 ((rd_T37 l0 x7_1).f1).length c164_1, .string ((rd_T37 l0 x7_1).f2), .string ((rd_T37 l0 x7_1).f3)] 37 (0, 0)) (by (with_reducible repeat (first | refine blk_drewN ?_ _ | refine blk_drew ?_ | refine blk_alloc ?_ _)); refine blk_put (cs := #[.bool ((rd_T37 l0 x7_1).f0), .slice A164_1 ((rd_T37 l0 x7_1).f1).length c164_1, .string ((rd_T37 l0 x7_1).f2), .string (⟨#[]⟩ : ByteArray)]) ?_ 3 _ rfl; (with_reducible repeat (first | refine blk_drewN ?_ _ | refine blk_drew ?_ | refine blk_alloc ?_ _)); refine blk_put (cs := #[.bool ((rd_T37 l0 x7_1).f0), .slice A164_1 ((rd_T37 l0 x7_1).f1).length c164_1, .string (⟨#[]⟩ : ByteArray), .string (⟨#[]⟩ : ByteArray)]) ?_ 2 _ rfl; (with_reducible repeat (first | refine blk_drewN ?_ _ | refine blk_drew ?_ | refine blk_alloc ?_ _)); refine blk_put (cs := #[.bool ((rd_T37 l0 x7_1).f0), .slice none 0 0, .string (⟨#[]⟩ : ByteArray), .string (⟨#[]⟩ : ByteArray)]) ?_ 1 _ rfl; (with_reducible repeat (first | refine blk_drewN ?_ _ | refine blk_drew ?_ | refine blk_alloc ?_ _)); refine blk_put (cs := #[.bool false, .slice none 0 0, .string (⟨#[]⟩ : ByteArray), .string (⟨#[]⟩ : ByteArray)]) ?_ 0 _ rfl; (with_reducible repeat (first | refine blk_drewN ?_ _ | refine blk_drew ?_ | refine blk_alloc ?_ _)); exact BK165.out) hb); have n2_ := Aside0.mk (below_step (by repeat (first | (with_reducible first | exact HB.out | apply below_alloc | apply pw_below_drewN | apply below_drew1 | refine below_set ?_ GE165.out) | exact HB.out)) hb); clear BK165; clear HB; have HO168 := n0_; have BK165 := n1_; have HB := n2_; clear n0_ n1_ n2_; clear hb ho23; obtain ⟨Ao24, co24, eo24⟩ := Kd.R_slice HO168.out; subst eo24) | ((with_reducible refine gate_callee (f := 7) rfl ?_); refine goesL_ (some 16) rfl rfl Tryz.func7 (by kernel_rfl) rfl #[.slice Ao24 y166.length co24] rfl (by (try simp only [List.map_toArray, List.map_cons, List.map_nil]); first | done | rfl | (simp only [List.length_drop, List.length_take]; rfl)) ?_; (with_reducible refine (laws_short.calls k1 _ _ y166 true _ ?side1 ?side2 A5.out).mono ?_); (case side1 => repeat (first | exact (Kd.R_reads' HO168.out).2.2 | (with_reducible refine Kd.C_alloc ?_ _) | (with_reducible refine Kd.C_drewN ?_ _) | (with_reducible refine Kd.C_drew ?_))); (case side2 => exact (Kd.R_reads' HO168.out).2.1); rintro e w' ⟨rfl, ⟨nd, rfl⟩⟩; refine ⟨_, rfl, ?_⟩; have hcz25_0 : w22.cell? ⟨gb165, 0, none⟩ = some (.bool ((rd_T37 l0 x7_1).f0)) := (blk_cell BK165.out 0).trans rfl; have hcz25_1 : w22.cell? ⟨gb165, 1, none⟩ = some (.slice A164_1 ((rd_T37 l0 x7_1).f1).length c164_1) := (blk_cell BK165.out 1).trans rfl; have hcz25_2 : w22.cell? ⟨gb165, 2, none⟩ = some (.string ((rd_T37 l0 x7_1).f2)) := (blk_cell BK165.out 2).trans rfl; have hcz25_3 : w22.cell? ⟨gb165, 3, none⟩ = some (.string ((rd_T37 l0 x7_1).f3)) := (blk_cell BK165.out 3).trans rfl; have hfz25_0 := blk_frozen BK165.out 0; have hfz25_1 := blk_frozen BK165.out 1; have hfz25_2 := blk_frozen BK165.out 2; have hfz25_3 := blk_frozen BK165.out 3) | (go_at_call 36; (with_reducible refine (laws_numbers.calls k1 _ _ ((rd_T37 l0 x7_1).f1) true _ ?side1 ?side2 A7.out).mono ?_); (case side1 => repeat (first | exact (Kd.C_below HR164_1.out (by repeat (first | (with_reducible first | exact HB.out | apply below_alloc | apply pw_below_drewN | apply below_drew1 | refine below_set ?_ GE165.out) | exact HB.out))) | (with_reducible refine Kd.C_alloc ?_ _) | (with_reducible refine Kd.C_drewN ?_ _) | (with_reducible refine Kd.C_drew ?_))); (case side2 => exact HC164_1.out); rintro e w26 ⟨rfl, hb⟩; have n0_ := Aside0.mk (Kd.R_below (by (with_reducible repeat (first | apply Kd.R_alloc | apply Kd.R_drewN | apply Kd.R_drew)); exact HO168.out) hb); have n1_ := Aside0.mk (blk_below (g := gb165) (o := .cells #[.bool ((rd_T37 l0 x7_1).f0), .slice A164_1 ((rd_T37 l0 x7_1).f1).length c164_1, .string ((rd_T37 l0 x7_1).f2), .string ((rd_T37 l0 x7_1).f3)] 37 (0, 0)) (by (with_reducible repeat (first | refine blk_drewN ?_ _ | refine blk_drew ?_ | refine blk_alloc ?_ _)); exact BK165.out) hb); have n2_ := Aside0.mk (below_step (by repeat (first | (with_reducible first | exact HB.out | apply below_alloc | apply pw_below_drewN | apply below_drew1 | refine below_set ?_ GE165.out) | exact HB.out)) hb); clear HO168; clear BK165; clear HB; have HO168 := n0_; have BK165 := n1_; have HB := n2_; clear n0_ n1_ n2_; (try clear hb); (try clear hb2); (try clear hk); (try clear hi); have hcz27_0 : w26.cell? ⟨gb165, 0, none⟩ = some (.bool ((rd_T37 l0 x7_1).f0)) := (blk_cell BK165.out 0).trans rfl; have hcz27_1 : w26.cell? ⟨gb165, 1, none⟩ = some (.slice A164_1 ((rd_T37 l0 x7_1).f1).length c164_1) := (blk_cell BK165.out 1).trans rfl; have hcz27_2 : w26.cell? ⟨gb165, 2, none⟩ = some (.string ((rd_T37 l0 x7_1).f2)) := (blk_cell BK165.out 2).trans rfl; have hcz27_3 : w26.cell? ⟨gb165, 3, none⟩ = some (.string ((rd_T37 l0 x7_1).f3)) := (blk_cell BK165.out 3).trans rfl; have hfz27_0 := blk_frozen BK165.out 0; have hfz27_1 := blk_frozen BK165.out 1; have hfz27_2 := blk_frozen BK165.out 2; have hfz27_3 := blk_frozen BK165.out 3) | (go_at_call 37; (with_reducible refine (spec_LikeOK.calls k1 ((rd_T37 l0 x7_1).f0) _ _ ((rd_T37 l0 x7_1).f1) ((rd_T37 l0 x7_1).f2) ((rd_T37 l0 x7_1).f3) false _ ?side1 ?side2 A9.out).mono ?_); (case side1 => repeat (first | exact (Kd.C_below HR164_1.out HB.out) | (with_reducible refine Kd.C_alloc ?_ _) | (with_reducible refine Kd.C_drewN ?_ _) | (with_reducible refine Kd.C_drew ?_))); (case side2 => exact HC164_1.out); rintro e w28 ⟨rfl, hb⟩; have n0_ := Aside0.mk (Kd.R_below (by (with_reducible repeat (first | apply Kd.R_alloc | apply Kd.R_drewN | apply Kd.R_drew)); exact HO168.out) hb); have n1_ := Aside0.mk (blk_below (g := gb165) (o := .cells #[.bool ((rd_T37 l0 x7_1).f0), .slice A164_1 ((rd_T37 l0 x7_1).f1).length c164_1, .string ((rd_T37 l0 x7_1).f2), .string ((rd_T37 l0 x7_1).f3)] 37 (0, 0)) (by (with_reducible repeat (first | refine blk_drewN ?_ _ | refine blk_drew ?_ | refine blk_alloc ?_ _)); exact BK165.out) hb); have n2_ := Aside0.mk (below_step (by repeat (first | (with_reducible first | exact HB.out | apply below_alloc | apply pw_below_drewN | apply below_drew1 | refine below_set ?_ GE165.out) | exact HB.out)) hb); clear HO168; clear BK165; clear HB; have HO168 := n0_; have BK165 := n1_; have HB := n2_; clear n0_ n1_ n2_; (try clear hb); (try clear hb2); (try clear hk); (try clear hi)))
                  go_ret
                  exact ⟨by first | rfl | (simp [errW_none, errW_some] <;> rfl) | (simp [*, errW_none, errW_some] <;> rfl) | (simp [bne_nil_]; done), by repeat (first | (with_reducible first | exact HB.out | apply below_alloc | apply pw_below_drewN | apply below_drew1 | refine below_set ?_ GE165.out) | exact HB.out)⟩
              · replace c8 := Bool.eq_false_iff.mpr c8
                subst c8
                have H1 : (some false) = some r := by rw [if_neg (show ¬ (false = true) by decide)] at H; exact H
                clear H
                have H := H1
                clear H1
                obtain rfl := Option.some.inj H
                have p164 : 0 ≤ (x7_1 : Int) := of_decide_eq_true (by first | (with_reducible assumption) | assumption)
                have q164 : x7_1 < (l0.length : Int) := of_decide_eq_true (by first | (with_reducible assumption) | assumption)
                obtain ⟨ad164, A164_1, c164_1, e164, hx164_0, hx164_1, hx164_2, hx164_3, hl164_1, hi164_1⟩ := at_T37 HR0.out x7_1 p164 q164
                cases e164
                replace hx164_0 := (HB.out.cell (World.block_lt_of_cell? w _ hx164_0)).trans hx164_0
                replace hx164_1 := (HB.out.cell (World.block_lt_of_cell? w _ hx164_1)).trans hx164_1
                replace hx164_2 := (HB.out.cell (World.block_lt_of_cell? w _ hx164_2)).trans hx164_2
                replace hx164_3 := (HB.out.cell (World.block_lt_of_cell? w _ hx164_3)).trans hx164_3
                have HR164_1 := Aside0.mk hi164_1
                have HC164_1 := Aside0.mk hl164_1
                clear hi164_1 hl164_1
                replace p164 := eq_true p164
                replace q164 := eq_true q164
                go_wp2_with (first | ((with_reducible refine gate_dst (N := 4) rfl ?_); refine box_event ?hg (N := 4) ?hd (cs := #[.bool false, .slice none 0 0, .string (⟨#[]⟩ : ByteArray), .string (⟨#[]⟩ : ByteArray)]) (t := 37) ?hr ?_; (case hd => rfl); (case hg => rfl); (case hr => first | (go_simp; done) | (go_simp; rfl)); intro gb165 hg w29 hbox hb; have n0_ := Aside0.mk (below_step (by repeat (first | (with_reducible first | exact HB.out | apply below_alloc | apply pw_below_drewN | apply below_drew1) | exact HB.out)) hb); have n1_ := Aside0.mk (hbox); have n2_ := Aside0.mk ((by rw [hg]; exact (below_size (by repeat (first | (with_reducible first | exact HB.out | apply below_alloc | apply pw_below_drewN | apply below_drew1) | exact HB.out))) : w.heap.size ≤ gb165)); have n3_ := Aside0.mk ((by rw [hg]; exact (below_size (by repeat (first | (with_reducible first | exact HB.out | apply below_alloc | apply pw_below_drewN | apply below_drew1) | exact HB.out))) : w.heap.size ≤ gb165)); clear HB; have HB := n0_; have BK165 := n1_; have GW165 := n2_; have GE165 := n3_; clear n0_ n1_ n2_ n3_; clear hb hbox hg; have hcz30_0 : w29.cell? ⟨gb165, 0, none⟩ = some (.bool false) := (blk_cell BK165.out 0).trans rfl; have hcz30_1 : w29.cell? ⟨gb165, 1, none⟩ = some (.slice none 0 0) := (blk_cell BK165.out 1).trans rfl; have hcz30_2 : w29.cell? ⟨gb165, 2, none⟩ = some (.string (⟨#[]⟩ : ByteArray)) := (blk_cell BK165.out 2).trans rfl; have hcz30_3 : w29.cell? ⟨gb165, 3, none⟩ = some (.string (⟨#[]⟩ : ByteArray)) := (blk_cell BK165.out 3).trans rfl; have hfz30_0 := blk_frozen BK165.out 0; have hfz30_1 := blk_frozen BK165.out 1; have hfz30_2 := blk_frozen BK165.out 2; have hfz30_3 := blk_frozen BK165.out 3) | ((with_reducible refine gate_dst (N := 15) rfl ?_); refine Kd.R_lit Kd.string _ 9 ?hg (N := 15) ?hd (xs := ([(rd_T37 l0 x7_1).f2, (rd_T37 l0 x7_1).f3] : List ByteArray)) (inner := [.string ((rd_T37 l0 x7_1).f2), .string ((rd_T37 l0 x7_1).f3)]) (ok := fun _ => True) (okp := fun _ => True) ?hr ?hp (fun _ hk => hk) trivial (Below.refl _ _) (Nat.le_refl _) (by simp) ?_; (case hd => rfl); (case hg => rfl); (case hr => first | (go_simp; done) | (go_simp; rfl)); (case hp => exact (Reps.one (show Kd.M Kd.string _ _ _ ((rd_T37 l0 x7_1).f2) [.string ((rd_T37 l0 x7_1).f2)] from rfl) (Reps.one (show Kd.M Kd.string _ _ _ ((rd_T37 l0 x7_1).f3) [.string ((rd_T37 l0 x7_1).f3)] from rfl) (Reps.none _ _)))); intro v167 w31 ho32 hb hg_ hnew_; clear hg_ hnew_; (first | rw [← Ny166.out] at ho32 | (simp only [Int.reduceToNat] at ho32; rw [← Ny166.out] at ho32)); have n0_ := Aside0.mk (Kd.R_lower ho32 (below_size (by repeat (first | (with_reducible first | exact HB.out | apply below_alloc | apply pw_below_drewN | apply below_drew1 | refine below_set ?_ GE165.out) | exact HB.out)))); have n1_ := Aside0.mk (blk_below (g := gb165) (o := .cells #[.bool ((rd_T37 l0 x7_1).f0), .slice A164_1 ((rd_T37 l0 x7_1).f1).length c164_1, .string ((rd_T37 l0 x7_1).f2), .string ((rd_T37 l0 x7_1).f3)] 37 (0, 0)) (by (with_reducible repeat (first | refine blk_drewN ?_ _ | refine blk_drew ?_ | refine blk_alloc ?_ _)); refine blk_put (cs := #[.bool ((rd_T37 l0 x7_1).f0), .slice A164_1 ((rd_T37 l0 x7_1).f1).length c164_1, .string ((rd_T37 l0 x7_1).f2), .string (⟨#[]⟩ : ByteArray)]) ?_ 3 _ rfl; (with_reducible repeat (first | refine blk_drewN ?_ _ | refine blk_drew ?_ | refine blk_alloc ?_ _)); refine blk_put (cs := #[.bool ((rd_T37 l0 x7_1).f0), .slice A164_1 ((rd_T37 l0 x7_1).f1).length c164_1, .string (⟨#[]⟩ : ByteArray), .string (⟨#[]⟩ : ByteArray)]) ?_ 2 _ rfl; (with_reducible repeat (first | refine blk_drewN ?_ _ | refine blk_drew ?_ | refine blk_alloc ?_ _)); refine blk_put (cs := #[.bool ((rd_T37 l0 x7_1).f0), .slice none 0 0, .string (⟨#[]⟩ : ByteArray), .string (⟨#[]⟩ : ByteArray)]) ?_ 1 _ rfl; (with_reducible repeat (first | refine blk_drewN ?_ _ | refine blk_drew ?_ | refine blk_alloc ?_ _)); refine blk_put (cs := #[.bool false, .slice none 0 0, .string (⟨#[]⟩ : ByteArray), .string (⟨#[]⟩ : ByteArray)]) ?_ 0 _ rfl; (with_reducible repeat (first | refine blk_drewN ?_ _ | refine blk_drew ?_ | refine blk_alloc ?_ _)); exact BK165.out) hb); have n2_ := Aside0.mk (below_step (by repeat (first | (with_reducible first | exact HB.out | apply below_alloc | apply pw_below_drewN | apply below_drew1 | refine below_set ?_ GE165.out) | exact HB.out)) hb); clear BK165; clear HB; have HO168 := n0_; have BK165 := n1_; have HB := n2_; clear n0_ n1_ n2_; clear hb ho32; obtain ⟨Ao33, co33, eo33⟩ := Kd.R_slice HO168.out; subst eo33) | ((with_reducible refine gate_callee (f := 7) rfl ?_); refine goesL_ (some 16) rfl rfl Tryz.func7 (by kernel_rfl) rfl #[.slice Ao33 y166.length co33] rfl (by (try simp only [List.map_toArray, List.map_cons, List.map_nil]); first | done | rfl | (simp only [List.length_drop, List.length_take]; rfl)) ?_; (with_reducible refine (laws_short.calls k1 _ _ y166 true _ ?side1 ?side2 A5.out).mono ?_); (case side1 => repeat (first | exact (Kd.R_reads' HO168.out).2.2 | (with_reducible refine Kd.C_alloc ?_ _) | (with_reducible refine Kd.C_drewN ?_ _) | (with_reducible refine Kd.C_drew ?_))); (case side2 => exact (Kd.R_reads' HO168.out).2.1); rintro e w' ⟨rfl, ⟨nd, rfl⟩⟩; refine ⟨_, rfl, ?_⟩; have hcz34_0 : w31.cell? ⟨gb165, 0, none⟩ = some (.bool ((rd_T37 l0 x7_1).f0)) := (blk_cell BK165.out 0).trans rfl; have hcz34_1 : w31.cell? ⟨gb165, 1, none⟩ = some (.slice A164_1 ((rd_T37 l0 x7_1).f1).length c164_1) := (blk_cell BK165.out 1).trans rfl; have hcz34_2 : w31.cell? ⟨gb165, 2, none⟩ = some (.string ((rd_T37 l0 x7_1).f2)) := (blk_cell BK165.out 2).trans rfl; have hcz34_3 : w31.cell? ⟨gb165, 3, none⟩ = some (.string ((rd_T37 l0 x7_1).f3)) := (blk_cell BK165.out 3).trans rfl; have hfz34_0 := blk_frozen BK165.out 0; have hfz34_1 := blk_frozen BK165.out 1; have hfz34_2 := blk_frozen BK165.out 2; have hfz34_3 := blk_frozen BK165.out 3) | (go_at_call 36; (with_reducible refine (laws_numbers.calls k1 _ _ ((rd_T37 l0 x7_1).f1) false _ ?side1 ?side2 A7.out).mono ?_); (case side1 => repeat (first | exact (Kd.C_below HR164_1.out (by repeat (first | (with_reducible first | exact HB.out | apply below_alloc | apply pw_below_drewN | apply below_drew1 | refine below_set ?_ GE165.out) | exact HB.out))) | (with_reducible refine Kd.C_alloc ?_ _) | (with_reducible refine Kd.C_drewN ?_ _) | (with_reducible refine Kd.C_drew ?_))); (case side2 => exact HC164_1.out); rintro e w35 ⟨rfl, hb⟩; have n0_ := Aside0.mk (Kd.R_below (by (with_reducible repeat (first | apply Kd.R_alloc | apply Kd.R_drewN | apply Kd.R_drew)); exact HO168.out) hb); have n1_ := Aside0.mk (blk_below (g := gb165) (o := .cells #[.bool ((rd_T37 l0 x7_1).f0), .slice A164_1 ((rd_T37 l0 x7_1).f1).length c164_1, .string ((rd_T37 l0 x7_1).f2), .string ((rd_T37 l0 x7_1).f3)] 37 (0, 0)) (by (with_reducible repeat (first | refine blk_drewN ?_ _ | refine blk_drew ?_ | refine blk_alloc ?_ _)); exact BK165.out) hb); have n2_ := Aside0.mk (below_step (by repeat (first | (with_reducible first | exact HB.out | apply below_alloc | apply pw_below_drewN | apply below_drew1 | refine below_set ?_ GE165.out) | exact HB.out)) hb); clear HO168; clear BK165; clear HB; have HO168 := n0_; have BK165 := n1_; have HB := n2_; clear n0_ n1_ n2_; (try clear hb); (try clear hb2); (try clear hk); (try clear hi)))
                go_ret
                exact ⟨by first | rfl | (simp [errW_none, errW_some] <;> rfl) | (simp [*, errW_none, errW_some] <;> rfl) | (simp [bne_nil_]; done), by repeat (first | (with_reducible first | exact HB.out | apply below_alloc | apply pw_below_drewN | apply below_drew1 | refine below_set ?_ GE165.out) | exact HB.out)⟩
            · replace c6 := Bool.eq_false_iff.mpr c6
              subst c6
              have H1 : (some false) = some r := by rw [if_neg (show ¬ (false = true) by decide)] at H; exact H
              clear H
              have H := H1
              clear H1
              obtain rfl := Option.some.inj H
              have p164 : 0 ≤ (x7_1 : Int) := of_decide_eq_true (by first | (with_reducible assumption) | assumption)
              have q164 : x7_1 < (l0.length : Int) := of_decide_eq_true (by first | (with_reducible assumption) | assumption)
              obtain ⟨ad164, A164_1, c164_1, e164, hx164_0, hx164_1, hx164_2, hx164_3, hl164_1, hi164_1⟩ := at_T37 HR0.out x7_1 p164 q164
              cases e164
              replace hx164_0 := (HB.out.cell (World.block_lt_of_cell? w _ hx164_0)).trans hx164_0
              replace hx164_1 := (HB.out.cell (World.block_lt_of_cell? w _ hx164_1)).trans hx164_1
              replace hx164_2 := (HB.out.cell (World.block_lt_of_cell? w _ hx164_2)).trans hx164_2
              replace hx164_3 := (HB.out.cell (World.block_lt_of_cell? w _ hx164_3)).trans hx164_3
              have HR164_1 := Aside0.mk hi164_1
              have HC164_1 := Aside0.mk hl164_1
              clear hi164_1 hl164_1
              replace p164 := eq_true p164
              replace q164 := eq_true q164
              go_wp2_with (first | ((with_reducible refine gate_dst (N := 4) rfl ?_); refine box_event ?hg (N := 4) ?hd (cs := #[.bool false, .slice none 0 0, .string (⟨#[]⟩ : ByteArray), .string (⟨#[]⟩ : ByteArray)]) (t := 37) ?hr ?_; (case hd => rfl); (case hg => rfl); (case hr => first | (go_simp; done) | (go_simp; rfl)); intro gb165 hg w36 hbox hb; have n0_ := Aside0.mk (below_step (by repeat (first | (with_reducible first | exact HB.out | apply below_alloc | apply pw_below_drewN | apply below_drew1) | exact HB.out)) hb); have n1_ := Aside0.mk (hbox); have n2_ := Aside0.mk ((by rw [hg]; exact (below_size (by repeat (first | (with_reducible first | exact HB.out | apply below_alloc | apply pw_below_drewN | apply below_drew1) | exact HB.out))) : w.heap.size ≤ gb165)); have n3_ := Aside0.mk ((by rw [hg]; exact (below_size (by repeat (first | (with_reducible first | exact HB.out | apply below_alloc | apply pw_below_drewN | apply below_drew1) | exact HB.out))) : w.heap.size ≤ gb165)); clear HB; have HB := n0_; have BK165 := n1_; have GW165 := n2_; have GE165 := n3_; clear n0_ n1_ n2_ n3_; clear hb hbox hg; have hcz37_0 : w36.cell? ⟨gb165, 0, none⟩ = some (.bool false) := (blk_cell BK165.out 0).trans rfl; have hcz37_1 : w36.cell? ⟨gb165, 1, none⟩ = some (.slice none 0 0) := (blk_cell BK165.out 1).trans rfl; have hcz37_2 : w36.cell? ⟨gb165, 2, none⟩ = some (.string (⟨#[]⟩ : ByteArray)) := (blk_cell BK165.out 2).trans rfl; have hcz37_3 : w36.cell? ⟨gb165, 3, none⟩ = some (.string (⟨#[]⟩ : ByteArray)) := (blk_cell BK165.out 3).trans rfl; have hfz37_0 := blk_frozen BK165.out 0; have hfz37_1 := blk_frozen BK165.out 1; have hfz37_2 := blk_frozen BK165.out 2; have hfz37_3 := blk_frozen BK165.out 3) | ((with_reducible refine gate_dst (N := 15) rfl ?_); refine Kd.R_lit Kd.string _ 9 ?hg (N := 15) ?hd (xs := ([(rd_T37 l0 x7_1).f2, (rd_T37 l0 x7_1).f3] : List ByteArray)) (inner := [.string ((rd_T37 l0 x7_1).f2), .string ((rd_T37 l0 x7_1).f3)]) (ok := fun _ => True) (okp := fun _ => True) ?hr ?hp (fun _ hk => hk) trivial (Below.refl _ _) (Nat.le_refl _) (by simp) ?_; (case hd => rfl); (case hg => rfl); (case hr => first | (go_simp; done) | (go_simp; rfl)); (case hp => exact (Reps.one (show Kd.M Kd.string _ _ _ ((rd_T37 l0 x7_1).f2) [.string ((rd_T37 l0 x7_1).f2)] from rfl) (Reps.one (show Kd.M Kd.string _ _ _ ((rd_T37 l0 x7_1).f3) [.string ((rd_T37 l0 x7_1).f3)] from rfl) (Reps.none _ _)))); intro v167 w38 ho39 hb hg_ hnew_; clear hg_ hnew_; (first | rw [← Ny166.out] at ho39 | (simp only [Int.reduceToNat] at ho39; rw [← Ny166.out] at ho39)); have n0_ := Aside0.mk (Kd.R_lower ho39 (below_size (by repeat (first | (with_reducible first | exact HB.out | apply below_alloc | apply pw_below_drewN | apply below_drew1 | refine below_set ?_ GE165.out) | exact HB.out)))); have n1_ := Aside0.mk (blk_below (g := gb165) (o := .cells #[.bool ((rd_T37 l0 x7_1).f0), .slice A164_1 ((rd_T37 l0 x7_1).f1).length c164_1, .string ((rd_T37 l0 x7_1).f2), .string ((rd_T37 l0 x7_1).f3)] 37 (0, 0)) (by (with_reducible repeat (first | refine blk_drewN ?_ _ | refine blk_drew ?_ | refine blk_alloc ?_ _)); refine blk_put (cs := #[.bool ((rd_T37 l0 x7_1).f0), .slice A164_1 ((rd_T37 l0 x7_1).f1).length c164_1, .string ((rd_T37 l0 x7_1).f2), .string (⟨#[]⟩ : ByteArray)]) ?_ 3 _ rfl; (with_reducible repeat (first | refine blk_drewN ?_ _ | refine blk_drew ?_ | refine blk_alloc ?_ _)); refine blk_put (cs := #[.bool ((rd_T37 l0 x7_1).f0), .slice A164_1 ((rd_T37 l0 x7_1).f1).length c164_1, .string (⟨#[]⟩ : ByteArray), .string (⟨#[]⟩ : ByteArray)]) ?_ 2 _ rfl; (with_reducible repeat (first | refine blk_drewN ?_ _ | refine blk_drew ?_ | refine blk_alloc ?_ _)); refine blk_put (cs := #[.bool ((rd_T37 l0 x7_1).f0), .slice none 0 0, .string (⟨#[]⟩ : ByteArray), .string (⟨#[]⟩ : ByteArray)]) ?_ 1 _ rfl; (with_reducible repeat (first | refine blk_drewN ?_ _ | refine blk_drew ?_ | refine blk_alloc ?_ _)); refine blk_put (cs := #[.bool false, .slice none 0 0, .string (⟨#[]⟩ : ByteArray), .string (⟨#[]⟩ : ByteArray)]) ?_ 0 _ rfl; (with_reducible repeat (first | refine blk_drewN ?_ _ | refine blk_drew ?_ | refine blk_alloc ?_ _)); exact BK165.out) hb); have n2_ := Aside0.mk (below_step (by repeat (first | (with_reducible first | exact HB.out | apply below_alloc | apply pw_below_drewN | apply below_drew1 | refine below_set ?_ GE165.out) | exact HB.out)) hb); clear BK165; clear HB; have HO168 := n0_; have BK165 := n1_; have HB := n2_; clear n0_ n1_ n2_; clear hb ho39; obtain ⟨Ao40, co40, eo40⟩ := Kd.R_slice HO168.out; subst eo40) | ((with_reducible refine gate_callee (f := 7) rfl ?_); refine goesL_ (some 16) rfl rfl Tryz.func7 (by kernel_rfl) rfl #[.slice Ao40 y166.length co40] rfl (by (try simp only [List.map_toArray, List.map_cons, List.map_nil]); first | done | rfl | (simp only [List.length_drop, List.length_take]; rfl)) ?_; (with_reducible refine (laws_short.calls k1 _ _ y166 false _ ?side1 ?side2 A5.out).mono ?_); (case side1 => repeat (first | exact (Kd.R_reads' HO168.out).2.2 | (with_reducible refine Kd.C_alloc ?_ _) | (with_reducible refine Kd.C_drewN ?_ _) | (with_reducible refine Kd.C_drew ?_))); (case side2 => exact (Kd.R_reads' HO168.out).2.1); rintro e w' ⟨rfl, ⟨nd, rfl⟩⟩; refine ⟨_, rfl, ?_⟩))
              go_ret
              exact ⟨by first | rfl | (simp [errW_none, errW_some] <;> rfl) | (simp [*, errW_none, errW_some] <;> rfl) | (simp [bne_nil_]; done), by repeat (first | (with_reducible first | exact HB.out | apply below_alloc | apply pw_below_drewN | apply below_drew1 | refine below_set ?_ GE165.out) | exact HB.out)⟩
          · rw [if_neg c4] at H
            exact absurd H (by simp)
        · rw [if_neg c3] at H
          exact absurd H (by simp)
      · rw [if_neg c2] at H
        have c2b0 : decide (x7_1 < (l0.length : Int)) = false := decide_eq_false c2
        clear c2
        obtain rfl := Option.some.inj H
        go_wp2
        go_ret
        exact ⟨by first | rfl | (simp [errW_none, errW_some] <;> rfl) | (simp [*, errW_none, errW_some] <;> rfl) | (simp [bne_nil_]; done), by repeat (first | (with_reducible first | exact HB.out | apply below_alloc | apply pw_below_drewN | apply below_drew1) | exact HB.out)⟩

/-! ### laws_zzFits1: function 16 -/
def laws_zzFits1.l0 : Nat → List ByteArray → Int → Int → Option (Bool)
  | 0, _, _, _ => none
  | k + 1, x8, x9, x10 => if x10 < x9 then (if 0 ≤ x10 then (if x10 < (x8.length : Int) then (if ((rdOf ByteArray.empty x8 x10).size : Int) > 2147483647 then (some false) else (laws_zzFits1.l0 k x8 x9 (wrap64 (x10 + 1)))) else (none)) else (none)) else (some true)
def laws_zzFits1.f (k : Nat) (l0 : List ByteArray) : Option (Bool) := if (l0.length : Int) > 2147483647 then (some false) else (laws_zzFits1.l0 k l0 (l0.length : Int) 0)
theorem laws_zzFits1.mono_l : ∀ k, (∀ y0 y1 y2, LeO (laws_zzFits1.l0 k y0 y1 y2) (laws_zzFits1.l0 (k + 1) y0 y1 y2))
  | 0 => fun _ _ _ r h => by simp [laws_zzFits1.l0] at h
  | k + 1 => by
    have ih0 := laws_zzFits1.mono_l k
    · intro y0 y1 y2
      unfold laws_zzFits1.l0
      repeat' first
      | (with_reducible exact ih0 _ _ _)
      | (with_reducible exact LeO.refl _)
      | (with_reducible exact LeO.none _)
      | (with_reducible refine LeO.ite ?_ ?_)
      | (with_reducible refine LeO.bind ?_ (fun _ => ?_))
      | exact ih0 _ _ _
      | exact LeO.none _
      | refine LeO.ite ?_ ?_
      | refine LeO.bind ?_ (fun _ => ?_)
theorem laws_zzFits1.mono : ∀ a0 k, LeO (laws_zzFits1.f k a0) (laws_zzFits1.f (k + 1) a0) := by
  intro a0 k
  have ih0 := laws_zzFits1.mono_l k
  unfold laws_zzFits1.f
  repeat' first
      | (with_reducible exact ih0 _ _ _)
      | (with_reducible exact LeO.refl _)
      | (with_reducible exact LeO.none _)
      | (with_reducible refine LeO.ite ?_ ?_)
      | (with_reducible refine LeO.bind ?_ (fun _ => ?_))
      | exact ih0 _ _ _
      | exact LeO.none _
      | refine LeO.ite ?_ ?_
      | refine LeO.bind ?_ (fun _ => ?_)
set_option maxHeartbeats 8000000 in
set_option maxRecDepth 100000 in
theorem laws_zzFits1.calls (k : Nat) (A0 : Option Addr) (c0 : Nat) (l0 : List ByteArray) (r : Bool) (w : World) (hr0 : Kd.C Kd.string w A0 l0.length l0) (hc0 : l0.length ≤ c0) (h : laws_zzFits1.f k l0 = some r) :
    Calls Tryz.prog 16 #[.slice A0 l0.length c0] w fun e w' => e = .returned (.bool r) ∧ Drawn0 w w' := by
  have HR0 := Aside0.mk hr0
  have HC0 := Aside0.mk hc0
  clear hr0 hc0
  have H : (if (l0.length : Int) > 2147483647 then (some false) else (laws_zzFits1.l0 k l0 (l0.length : Int) 0)) = some r := h
  clear h
  by_cases c2 : (l0.length : Int) > 2147483647
  · rw [if_pos c2] at H
    have c2b0 : decide (2147483647 < (l0.length : Int)) = true := decide_eq_true c2
    have c2b1 : decide (2147483647 < l0.length) = true := decide_eq_true (by omega)
    clear c2
    obtain rfl := Option.some.inj H
    go_enter Tryz.func16, Tryz.ntmps16
    go_wp2
    go_ret
    exact ⟨by first | rfl | (simp; done) | (simp [*]; done) | (simp [bne_nil_]; done), by repeat (first | exact Drawn0.refl _ | apply Drawn0.step)⟩
  · rw [if_neg c2] at H
    have c2b0 : decide (2147483647 < (l0.length : Int)) = false := decide_eq_false c2
    have c2b1 : decide (2147483647 < l0.length) = false := decide_eq_false (by omega)
    clear c2
    have H' := Aside0.mk H
    clear H
    go_enter Tryz.func16, Tryz.ntmps16
    go_wp2
    go_loopg [10] k (fun kq v10 w' => ∃ (x10_1 : Int), v10 = .int .i64 x10_1 ∧ Aside0 (laws_zzFits1.l0 kq l0 (l0.length : Int) x10_1 = some r) ∧ Aside0 (kq ≤ k) ∧ Drawn0 w w')
    case atStart => exact ⟨(0), (by first | rfl | (simp; done) | (simp [*]; done) | (simp [bne_nil_]; done)), H', ⟨Nat.le_refl _⟩, by repeat (first | exact Drawn0.refl _ | apply Drawn0.step)⟩
    case round =>
      clear H'
      try clear c1
      try clear c2
      try clear c2b0
      try clear c2b1
      try clear p2
      obtain ⟨x10_1, rfl, HA, HK1, ⟨m1, rfl⟩⟩ := hrel
      cases gk with
      | zero => exact absurd HA.out (by simp [laws_zzFits1.l0])
      | succ k1 =>
        have H := HA.out
        clear HA
        simp only [laws_zzFits1.l0] at H
        by_cases c3 : x10_1 < (l0.length : Int)
        · rw [if_pos c3] at H
          have c3b0 : decide (x10_1 < (l0.length : Int)) = true := decide_eq_true c3
          clear c3
          by_cases c4 : 0 ≤ x10_1
          · rw [if_pos c4] at H
            have c4b0 : decide (0 ≤ x10_1) = true := decide_eq_true c4
            clear c4
            by_cases c5 : x10_1 < (l0.length : Int)
            · rw [if_pos c5] at H
              have c5b0 : decide (x10_1 < (l0.length : Int)) = true := decide_eq_true c5
              clear c5
              by_cases c6 : ((rdOf ByteArray.empty l0 x10_1).size : Int) > 2147483647
              · rw [if_pos c6] at H
                have c6b0 : decide (2147483647 < ((rdOf ByteArray.empty l0 x10_1).size : Int)) = true := decide_eq_true c6
                have c6b1 : decide (2147483647 < (rdOf ByteArray.empty l0 x10_1).size) = true := decide_eq_true (by omega)
                clear c6
                obtain rfl := Option.some.inj H
                have p172 : 0 ≤ (x10_1 : Int) := of_decide_eq_true (by first | (with_reducible assumption) | assumption)
                have q172 : x10_1 < (l0.length : Int) := of_decide_eq_true (by first | (with_reducible assumption) | assumption)
                obtain ⟨ad172, e172, hx172_0⟩ := Kd.at_string HR0.out x10_1 p172 q172
                cases e172
                replace p172 := eq_true p172
                replace q172 := eq_true q172
                go_wp2
                go_ret
                exact ⟨by first | rfl | (simp; done) | (simp [*]; done) | (simp [bne_nil_]; done), by repeat (first | exact Drawn0.refl _ | apply Drawn0.step)⟩
              · rw [if_neg c6] at H
                have c6b0 : decide (2147483647 < ((rdOf ByteArray.empty l0 x10_1).size : Int)) = false := decide_eq_false c6
                have c6b1 : decide (2147483647 < (rdOf ByteArray.empty l0 x10_1).size) = false := decide_eq_false (by omega)
                clear c6
                have H' := Aside0.mk H
                clear H
                have p172 : 0 ≤ (x10_1 : Int) := of_decide_eq_true (by first | (with_reducible assumption) | assumption)
                have q172 : x10_1 < (l0.length : Int) := of_decide_eq_true (by first | (with_reducible assumption) | assumption)
                obtain ⟨ad172, e172, hx172_0⟩ := Kd.at_string HR0.out x10_1 p172 q172
                cases e172
                replace p172 := eq_true p172
                replace q172 := eq_true q172
                go_wp2
                go_roundg k1
                case measure => have := HK1.out; omega
                case rel => exact ⟨(wrap64 (x10_1 + 1)), (by first | rfl | (simp; done) | (simp [*]; done) | (simp [bne_nil_]; done)), H', ⟨by have := HK1.out; omega⟩, by repeat (first | exact Drawn0.refl _ | apply Drawn0.step)⟩
            · rw [if_neg c5] at H
              exact absurd H (by simp)
          · rw [if_neg c4] at H
            exact absurd H (by simp)
        · rw [if_neg c3] at H
          have c3b0 : decide (x10_1 < (l0.length : Int)) = false := decide_eq_false c3
          clear c3
          obtain rfl := Option.some.inj H
          go_wp2
          go_ret
          exact ⟨by first | rfl | (simp; done) | (simp [*]; done) | (simp [bne_nil_]; done), by repeat (first | exact Drawn0.refl _ | apply Drawn0.step)⟩

/-! ### spec_orderInts: function 29 -/
def spec_orderInts.f (a0 : Int) (a1 : Int) : Option (Int) := if a0 < a1 then (some (-1)) else (if a0 > a1 then (some 1) else (some 0))
set_option maxHeartbeats 8000000 in
set_option maxRecDepth 100000 in
theorem spec_orderInts.calls (a0 : Int) (a1 : Int) (r : Int) (w : World) (h : spec_orderInts.f a0 a1 = some r) :
    Calls Tryz.prog 29 #[.int .i64 a0, .int .i64 a1] w fun e w' => e = .returned (.int .i64 r) ∧ Drawn0 w w' := by
  have H : (if a0 < a1 then (some (-1)) else (if a0 > a1 then (some 1) else (some 0))) = some r := h
  clear h
  by_cases c3 : a0 < a1
  · rw [if_pos c3] at H
    have c3b0 : decide (a0 < a1) = true := decide_eq_true c3
    clear c3
    obtain rfl := Option.some.inj H
    go_enter Tryz.func29, Tryz.ntmps29
    go_wp2
    go_ret
    exact ⟨by first | rfl | (simp; done) | (simp [*]; done) | (simp [bne_nil_]; done), by repeat (first | exact Drawn0.refl _ | apply Drawn0.step)⟩
  · rw [if_neg c3] at H
    have c3b0 : decide (a0 < a1) = false := decide_eq_false c3
    clear c3
    by_cases c4 : a0 > a1
    · rw [if_pos c4] at H
      have c4b0 : decide (a1 < a0) = true := decide_eq_true c4
      clear c4
      obtain rfl := Option.some.inj H
      go_enter Tryz.func29, Tryz.ntmps29
      go_wp2
      go_ret
      exact ⟨by first | rfl | (simp; done) | (simp [*]; done) | (simp [bne_nil_]; done), by repeat (first | exact Drawn0.refl _ | apply Drawn0.step)⟩
    · rw [if_neg c4] at H
      have c4b0 : decide (a1 < a0) = false := decide_eq_false c4
      clear c4
      obtain rfl := Option.some.inj H
      go_enter Tryz.func29, Tryz.ntmps29
      go_wp2
      go_ret
      exact ⟨by first | rfl | (simp; done) | (simp [*]; done) | (simp [bne_nil_]; done), by repeat (first | exact Drawn0.refl _ | apply Drawn0.step)⟩

-- GIVEN: function 54 (spec_order)

end Go.Proofs.YtdliagehkiihpaaGreatDoor.QW
