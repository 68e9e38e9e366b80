-- Written by a working copy of the kit's print program, turned at a few places by wip/tool/mkprint.py. Lean checks it.
import Derived.Test.YtdpeadckejhloaaGreatDoorWGuard
import Derived.Test.YtdpeadckejhloaaGreatDoorWRepsOne
import Derived.Test.YtdpeadckejhloaaGreatDoorQHx0
import Derived.Test.YtdpeadckejhloaaGreatDoorQHx2
namespace Go.Proofs.YtdpeadckejhloaaGreatDoor.QH
open Go.RowKit Go.Proofs.YtdpeadckejhloaaGreatDoorW.PrintWords Go.Proofs.YtdpeadckejhloaaGreatDoorW.PrintLast Go.Proofs.YtdpeadckejhloaaGreatDoorW.PrintMore
attribute [local go_sem] max2_int min2_int max_two min_two max_three min_three max_four min_four   -- for this text's walks alone
set_option linter.unusedVariables false
set_option linter.unusedSimpArgs false

/-! ### laws_likes: function 6 -/
def laws_likes.l0 : Nat → List (S24) → Int → Int → Option (Bool)
 | 0, _, _, _ => none
 | k + 1, x5, x6, x7 => if x7 < x6 then (if 0 ≤ x7 then (if x7 < (x5.length : Int) then ((laws_short.f k (([(rd_T24 x5 x7).f2, (rd_T24 x5 x7).f3] : List ByteArray))).bind fun t137 => (if t137 = true then ((laws_numbers.f k ((rd_T24 x5 x7).f1)).bind fun t138 => (if t138 = true then ((spec_LikeOK.f k ((rd_T24 x5 x7).f0) ((rd_T24 x5 x7).f1) ((rd_T24 x5 x7).f2) ((rd_T24 x5 x7).f3)).bind fun t139 => (if t139 = true then (laws_likes.l0 k x5 x6 (wrap64 (x7 + 1))) else (some false))) else (some false))) else (some false))) else (none)) else (none)) else (some true)
def laws_likes.f (k : Nat) (l0 : List (S24)) : Option (Bool) := laws_likes.l0 k l0 (l0.length : Int) 0
theorem laws_likes.mono_l : ∀ k, (∀ y0 y1 y2, LeO (laws_likes.l0 k y0 y1 y2) (laws_likes.l0 (k + 1) y0 y1 y2))
 | 0 => fun _ _ _ r h => by simp [laws_likes.l0] at h
 | k + 1 => by
  have ih0 := laws_likes.mono_l k
  · intro y0 y1 y2
    unfold laws_likes.l0
    repeat' first
    | (with_reducible exact ih0 _ _ _)
    | (with_reducible exact laws_numbers.mono _ _)
    | (with_reducible exact laws_short.mono _ _)
    | (with_reducible exact spec_LikeOK.mono _ _ _ _ _)
    | (with_reducible exact LeO.refl _)
    | (with_reducible exact LeO.none _)
    | (with_reducible refine LeO.ite ?_ ?_)
    | (with_reducible refine LeO.bind ?_ (fun _ => ?_))
    | exact ih0 _ _ _
    | exact laws_numbers.mono _ _
    | exact laws_short.mono _ _
    | exact spec_LikeOK.mono _ _ _ _ _
    | exact LeO.none _
    | refine LeO.ite ?_ ?_
    | refine LeO.bind ?_ (fun _ => ?_)
theorem laws_likes.mono : ∀ a0 k, LeO (laws_likes.f k a0) (laws_likes.f (k + 1) a0) := by
 intro a0 k
 have ih0 := laws_likes.mono_l k
 unfold laws_likes.f
 repeat' first
  | (with_reducible exact ih0 _ _ _)
  | (with_reducible exact laws_numbers.mono _ _)
  | (with_reducible exact laws_short.mono _ _)
  | (with_reducible exact spec_LikeOK.mono _ _ _ _ _)
  | (with_reducible exact LeO.refl _)
  | (with_reducible exact LeO.none _)
  | (with_reducible refine LeO.ite ?_ ?_)
  | (with_reducible refine LeO.bind ?_ (fun _ => ?_))
  | exact ih0 _ _ _
  | exact laws_numbers.mono _ _
  | exact laws_short.mono _ _
  | exact spec_LikeOK.mono _ _ _ _ _
  | exact LeO.none _
  | refine LeO.ite ?_ ?_
  | refine LeO.bind ?_ (fun _ => ?_)
set_option maxHeartbeats 8000000 in
set_option maxRecDepth 100000 in
theorem laws_likes.calls (k : Nat) (A0 : Option Addr) (c0 : Nat) (l0 : List (S24)) (r : Bool) (w : World) (hr0 : Kd.C k24 w A0 l0.length l0) (hc0 : l0.length ≤ c0) (h : laws_likes.f k l0 = some r) :
 Calls Tryz.prog 6 #[.slice A0 l0.length c0] w fun e w' => e = .returned (.bool r) ∧ Below w.heap.size w w' := by
 have hu24 := Tryz.underlying24
 have HR0 := Aside0.mk hr0
 have HC0 := Aside0.mk hc0
 clear hr0 hc0
 have HB := Aside0.mk (Below.refl w.heap.size w)
 have H : (laws_likes.l0 k l0 (l0.length : Int) 0) = some r := h
 clear h
 have H' := Aside0.mk H
 clear H
 go_enter Tryz.func6, Tryz.ntmps6
 go_wp2
 go_loopg [7] k (fun kq v7 w' => ∃ (x7_1 : Int), v7 = .int .i64 x7_1 ∧ Aside0 (laws_likes.l0 kq l0 (l0.length : Int) x7_1 = some r) ∧ Aside0 (kq ≤ k) ∧ Aside0 (Below w.heap.size w w'))
 case atStart => exact ⟨(0), (by first | rfl | (simp; done) | (simp [*]; done) | (simp [bne_nil_]; done)), H', ⟨Nat.le_refl _⟩, ⟨by repeat (first | (with_reducible first | exact HB.out | apply below_alloc | apply pw_below_drewN | apply below_drew1) | exact HB.out)⟩⟩
 case round =>
  clear H'
  obtain ⟨x7_1, rfl, HA, HK1, HB⟩ := hrel
  cases gk with
  | zero => exact absurd HA.out (by simp [laws_likes.l0])
  | succ k1 =>
   have H := HA.out
   clear HA
   simp only [laws_likes.l0] at H
   by_cases c2 : x7_1 < (l0.length : Int)
   · rw [if_pos c2] at H
     have c2b0 : decide (x7_1 < (l0.length : Int)) = true := decide_eq_true c2
     clear c2
     by_cases c3 : 0 ≤ x7_1
     · rw [if_pos c3] at H
       have c3b0 : decide (0 ≤ x7_1) = true := decide_eq_true c3
       clear c3
       by_cases c4 : x7_1 < (l0.length : Int)
       · rw [if_pos c4] at H
         have c4b0 : decide (x7_1 < (l0.length : Int)) = true := decide_eq_true c4
         clear c4
         obtain ⟨y134, hy134⟩ : ∃ y_ : List ByteArray, y_ = (([(rd_T24 l0 x7_1).f2, (rd_T24 l0 x7_1).f3] : List ByteArray)) := ⟨_, rfl⟩
         replace H : ((laws_short.f k1 y134).bind fun t137 => (if t137 = true then ((laws_numbers.f k1 ((rd_T24 l0 x7_1).f1)).bind fun t138 => (if t138 = true then ((spec_LikeOK.f k1 ((rd_T24 l0 x7_1).f0) ((rd_T24 l0 x7_1).f1) ((rd_T24 l0 x7_1).f2) ((rd_T24 l0 x7_1).f3)).bind fun t139 => (if t139 = true then (laws_likes.l0 k1 l0 (l0.length : Int) (wrap64 (x7_1 + 1))) else (some false))) else (some false))) else (some false))) = some r := by first | (rw [hy134]; with_reducible exact H) | (have H2_ := (Option.bind_some _ _).symm.trans H; rw [hy134]; with_reducible exact H2_) | (have H2_ := (Option.bind_some _ _).symm.trans H; with_reducible exact H2_) | with_reducible exact H | (rw [hy134]; exact H) | exact H
         have Ny134 := Aside0.mk hy134
         clear hy134
         replace H := Option.bind_eq_some_iff.mp H
         obtain ⟨t137, A50, H⟩ := H
         replace H : (if t137 = true then ((laws_numbers.f k1 ((rd_T24 l0 x7_1).f1)).bind fun t138 => (if t138 = true then ((spec_LikeOK.f k1 ((rd_T24 l0 x7_1).f0) ((rd_T24 l0 x7_1).f1) ((rd_T24 l0 x7_1).f2) ((rd_T24 l0 x7_1).f3)).bind fun t139 => (if t139 = true then (laws_likes.l0 k1 l0 (l0.length : Int) (wrap64 (x7_1 + 1))) else (some false))) else (some false))) else (some false)) = some r := H
         have A5 := Aside0.mk A50
         clear A50
         by_cases c6 : t137 = true
         · subst c6
           have H1 : ((laws_numbers.f k1 ((rd_T24 l0 x7_1).f1)).bind fun t138 => (if t138 = true then ((spec_LikeOK.f k1 ((rd_T24 l0 x7_1).f0) ((rd_T24 l0 x7_1).f1) ((rd_T24 l0 x7_1).f2) ((rd_T24 l0 x7_1).f3)).bind fun t139 => (if t139 = true then (laws_likes.l0 k1 l0 (l0.length : Int) (wrap64 (x7_1 + 1))) else (some false))) else (some false))) = some r := by rw [if_pos rfl] at H; exact H
           clear H
           have H := H1
           clear H1
           replace H := Option.bind_eq_some_iff.mp H
           obtain ⟨t138, A70, H⟩ := H
           replace H : (if t138 = true then ((spec_LikeOK.f k1 ((rd_T24 l0 x7_1).f0) ((rd_T24 l0 x7_1).f1) ((rd_T24 l0 x7_1).f2) ((rd_T24 l0 x7_1).f3)).bind fun t139 => (if t139 = true then (laws_likes.l0 k1 l0 (l0.length : Int) (wrap64 (x7_1 + 1))) else (some false))) else (some false)) = some r := H
           have A7 := Aside0.mk A70
           clear A70
           by_cases c8 : t138 = true
           · subst c8
             have H1 : ((spec_LikeOK.f k1 ((rd_T24 l0 x7_1).f0) ((rd_T24 l0 x7_1).f1) ((rd_T24 l0 x7_1).f2) ((rd_T24 l0 x7_1).f3)).bind fun t139 => (if t139 = true then (laws_likes.l0 k1 l0 (l0.length : Int) (wrap64 (x7_1 + 1))) else (some false))) = some r := by rw [if_pos rfl] at H; exact H
             clear H
             have H := H1
             clear H1
             replace H := Option.bind_eq_some_iff.mp H
             obtain ⟨t139, A90, H⟩ := H
             replace H : (if t139 = true then (laws_likes.l0 k1 l0 (l0.length : Int) (wrap64 (x7_1 + 1))) else (some false)) = some r := H
             have A9 := Aside0.mk A90
             clear A90
             by_cases c10 : t139 = true
             · subst c10
               have H1 : (laws_likes.l0 k1 l0 (l0.length : Int) (wrap64 (x7_1 + 1))) = some r := by rw [if_pos rfl] at H; exact H
               clear H
               have H := H1
               clear H1
               have H' := Aside0.mk H
               clear H
               have p132 : 0 ≤ (x7_1 : Int) := of_decide_eq_true (by first | (with_reducible assumption) | assumption)
               have q132 : x7_1 < (l0.length : Int) := of_decide_eq_true (by first | (with_reducible assumption) | assumption)
               obtain ⟨ad132, A132_1, c132_1, e132, hx132_0, hx132_1, hx132_2, hx132_3, hl132_1, hi132_1⟩ := at_T24 HR0.out x7_1 p132 q132
               cases e132
               replace hx132_0 := (HB.out.cell (World.block_lt_of_cell? w _ hx132_0)).trans hx132_0
               replace hx132_1 := (HB.out.cell (World.block_lt_of_cell? w _ hx132_1)).trans hx132_1
               replace hx132_2 := (HB.out.cell (World.block_lt_of_cell? w _ hx132_2)).trans hx132_2
               replace hx132_3 := (HB.out.cell (World.block_lt_of_cell? w _ hx132_3)).trans hx132_3
               have HR132_1 := Aside0.mk hi132_1
               have HC132_1 := Aside0.mk hl132_1
               clear hi132_1 hl132_1
               replace p132 := eq_true p132
               replace q132 := eq_true q132
               go_wp2_with (first | ((with_reducible refine gate_dst (N := 4) rfl ?_); refine box_event ?hg (N := 4) ?hd (cs := #[.bool false, .slice none 0 0, .string (⟨#[]⟩ : ByteArray), .string (⟨#[]⟩ : ByteArray)]) (t := 24) ?hr ?_; (case hd => rfl); (case hg => rfl); (case hr => first | (go_simp; done) | (go_simp; rfl)); intro gb133 hg w11 hbox hb; have n0_ := Aside0.mk (below_step (by repeat (first | (with_reducible first | exact HB.out | apply below_alloc | apply pw_below_drewN | apply below_drew1) | exact HB.out)) hb); have n1_ := Aside0.mk (hbox); have n2_ := Aside0.mk ((by rw [hg]; exact (below_size (by repeat (first | (with_reducible first | exact HB.out | apply below_alloc | apply pw_below_drewN | apply below_drew1) | exact HB.out))) : w.heap.size ≤ gb133)); have n3_ := Aside0.mk ((by rw [hg]; exact (below_size (by repeat (first | (with_reducible first | exact HB.out | apply below_alloc | apply pw_below_drewN | apply below_drew1) | exact HB.out))) : w.heap.size ≤ gb133)); clear HB; have HB := n0_; have BK133 := n1_; have GW133 := n2_; have GE133 := n3_; clear n0_ n1_ n2_ n3_; clear hb hbox hg; have hcz12_0 : w11.cell? ⟨gb133, 0, none⟩ = some (.bool false) := (blk_cell BK133.out 0).trans rfl; have hcz12_1 : w11.cell? ⟨gb133, 1, none⟩ = some (.slice none 0 0) := (blk_cell BK133.out 1).trans rfl; have hcz12_2 : w11.cell? ⟨gb133, 2, none⟩ = some (.string (⟨#[]⟩ : ByteArray)) := (blk_cell BK133.out 2).trans rfl; have hcz12_3 : w11.cell? ⟨gb133, 3, none⟩ = some (.string (⟨#[]⟩ : ByteArray)) := (blk_cell BK133.out 3).trans rfl; have hfz12_0 := blk_frozen BK133.out 0; have hfz12_1 := blk_frozen BK133.out 1; have hfz12_2 := blk_frozen BK133.out 2; have hfz12_3 := blk_frozen BK133.out 3) | ((with_reducible refine gate_dst (N := 15) rfl ?_); refine Kd.R_lit Kd.string _ 9 ?hg (N := 15) ?hd (xs := ([(rd_T24 l0 x7_1).f2, (rd_T24 l0 x7_1).f3] : List ByteArray)) (inner := [.string ((rd_T24 l0 x7_1).f2), .string ((rd_T24 l0 x7_1).f3)]) (ok := fun _ => True) (okp := fun _ => True) ?hr ?hp (fun _ hk => hk) trivial (Below.refl _ _) (Nat.le_refl _) (by simp) ?_; (case hd => rfl); (case hg => rfl); (case hr => first | (go_simp; done) | (go_simp; rfl)); (case hp => exact (Reps.one (show Kd.M Kd.string _ _ _ ((rd_T24 l0 x7_1).f2) [.string ((rd_T24 l0 x7_1).f2)] from rfl) (Reps.one (show Kd.M Kd.string _ _ _ ((rd_T24 l0 x7_1).f3) [.string ((rd_T24 l0 x7_1).f3)] from rfl) (Reps.none _ _)))); intro v135 w13 ho14 hb hg_ hnew_; clear hg_ hnew_; (first | rw [← Ny134.out] at ho14 | (simp only [Int.reduceToNat] at ho14; rw [← Ny134.out] at ho14)); have n0_ := Aside0.mk (Kd.R_lower ho14 (below_size (by repeat (first | (with_reducible first | exact HB.out | apply below_alloc | apply pw_below_drewN | apply below_drew1 | refine below_set ?_ GE133.out) | exact HB.out)))); have n1_ := Aside0.mk (blk_below (g := gb133) (o := .cells #[.bool ((rd_T24 l0 x7_1).f0), .slice A132_1 ((rd_T24 l0 x7_1).f1).length c132_1, .string ((rd_T24 l0 x7_1).f2), .string ((rd_T24 l0 x7_1).f3)] 24 (0, 0)) (by (with_reducible repeat (first | refine blk_drewN ?_ _ | refine blk_drew ?_ | refine blk_alloc ?_ _)); refine blk_put (cs := #[.bool ((rd_T24 l0 x7_1).f0), .slice A132_1 ((rd_T24 l0 x7_1).f1).length c132_1, .string ((rd_T24 l0 x7_1).f2), .string (⟨#[]⟩ : ByteArray)]) ?_ 3 _ rfl; (with_reducible repeat (first | refine blk_drewN ?_ _ | refine blk_drew ?_ | refine blk_alloc ?_ _)); refine blk_put (cs := #[.bool ((rd_T24 l0 x7_1).f0), .slice A132_1 ((rd_T24 l0 x7_1).f1).length c132_1, .string (⟨#[]⟩ : ByteArray), .string (⟨#[]⟩ : ByteArray)]) ?_ 2 _ rfl; (with_reducible repeat (first | refine blk_drewN ?_ _ | refine blk_drew ?_ | refine blk_alloc ?_ _)); refine blk_put (cs := #[.bool ((rd_T24 l0 x7_1).f0), .slice none 0 0, .string (⟨#[]⟩ : ByteArray), .string (⟨#[]⟩ : ByteArray)]) ?_ 1 _ rfl; (with_reducible repeat (first | refine blk_drewN ?_ _ | refine blk_drew ?_ | refine blk_alloc ?_ _)); refine blk_put (cs := #[.bool false, .slice none 0 0, .string (⟨#[]⟩ : ByteArray), .string (⟨#[]⟩ : ByteArray)]) ?_ 0 _ rfl; (with_reducible repeat (first | refine blk_drewN ?_ _ | refine blk_drew ?_ | refine blk_alloc ?_ _)); exact BK133.out) hb); have n2_ := Aside0.mk (below_step (by repeat (first | (with_reducible first | exact HB.out | apply below_alloc | apply pw_below_drewN | apply below_drew1 | refine below_set ?_ GE133.out) | exact HB.out)) hb); clear BK133; clear HB; have HO136 := n0_; have BK133 := n1_; have HB := n2_; clear n0_ n1_ n2_; clear hb ho14; obtain ⟨Ao15, co15, eo15⟩ := Kd.R_slice HO136.out; subst eo15) | ((with_reducible refine gate_callee (f := 13) rfl ?_); refine goesL_ (some 16) rfl rfl Tryz.func13 (by kernel_rfl) rfl #[.slice Ao15 y134.length co15] rfl (by (try simp only [List.map_toArray, List.map_cons, List.map_nil]); first | done | rfl | (simp only [List.length_drop, List.length_take]; rfl)) ?_; (with_reducible refine (laws_short.calls k1 _ _ y134 true _ ?side1 ?side2 A5.out).mono ?_); (case side1 => repeat (first | exact (Kd.R_reads' HO136.out).2.2 | (with_reducible refine Kd.C_alloc ?_ _) | (with_reducible refine Kd.C_drewN ?_ _) | (with_reducible refine Kd.C_drew ?_))); (case side2 => exact (Kd.R_reads' HO136.out).2.1); rintro e w' ⟨rfl, ⟨nd, rfl⟩⟩; refine ⟨_, rfl, ?_⟩; have hcz16_0 : w13.cell? ⟨gb133, 0, none⟩ = some (.bool ((rd_T24 l0 x7_1).f0)) := (blk_cell BK133.out 0).trans rfl; have hcz16_1 : w13.cell? ⟨gb133, 1, none⟩ = some (.slice A132_1 ((rd_T24 l0 x7_1).f1).length c132_1) := (blk_cell BK133.out 1).trans rfl; have hcz16_2 : w13.cell? ⟨gb133, 2, none⟩ = some (.string ((rd_T24 l0 x7_1).f2)) := (blk_cell BK133.out 2).trans rfl; have hcz16_3 : w13.cell? ⟨gb133, 3, none⟩ = some (.string ((rd_T24 l0 x7_1).f3)) := (blk_cell BK133.out 3).trans rfl; have hfz16_0 := blk_frozen BK133.out 0; have hfz16_1 := blk_frozen BK133.out 1; have hfz16_2 := blk_frozen BK133.out 2; have hfz16_3 := blk_frozen BK133.out 3) | (go_at_call 14; (with_reducible refine (laws_numbers.calls k1 _ _ ((rd_T24 l0 x7_1).f1) true _ ?side1 ?side2 A7.out).mono ?_); (case side1 => repeat (first | exact (Kd.C_below HR132_1.out (by repeat (first | (with_reducible first | exact HB.out | apply below_alloc | apply pw_below_drewN | apply below_drew1 | refine below_set ?_ GE133.out) | exact HB.out))) | (with_reducible refine Kd.C_alloc ?_ _) | (with_reducible refine Kd.C_drewN ?_ _) | (with_reducible refine Kd.C_drew ?_))); (case side2 => exact HC132_1.out); rintro e w17 ⟨rfl, hb⟩; have n0_ := Aside0.mk (Kd.R_below (by (with_reducible repeat (first | apply Kd.R_alloc | apply Kd.R_drewN | apply Kd.R_drew)); exact HO136.out) hb); have n1_ := Aside0.mk (blk_below (g := gb133) (o := .cells #[.bool ((rd_T24 l0 x7_1).f0), .slice A132_1 ((rd_T24 l0 x7_1).f1).length c132_1, .string ((rd_T24 l0 x7_1).f2), .string ((rd_T24 l0 x7_1).f3)] 24 (0, 0)) (by (with_reducible repeat (first | refine blk_drewN ?_ _ | refine blk_drew ?_ | refine blk_alloc ?_ _)); exact BK133.out) hb); have n2_ := Aside0.mk (below_step (by repeat (first | (with_reducible first | exact HB.out | apply below_alloc | apply pw_below_drewN | apply below_drew1 | refine below_set ?_ GE133.out) | exact HB.out)) hb); clear HO136; clear BK133; clear HB; have HO136 := n0_; have BK133 := n1_; have HB := n2_; clear n0_ n1_ n2_; (try clear hb); (try clear hb2); (try clear hk); (try clear hi); have hcz18_0 : w17.cell? ⟨gb133, 0, none⟩ = some (.bool ((rd_T24 l0 x7_1).f0)) := (blk_cell BK133.out 0).trans rfl; have hcz18_1 : w17.cell? ⟨gb133, 1, none⟩ = some (.slice A132_1 ((rd_T24 l0 x7_1).f1).length c132_1) := (blk_cell BK133.out 1).trans rfl; have hcz18_2 : w17.cell? ⟨gb133, 2, none⟩ = some (.string ((rd_T24 l0 x7_1).f2)) := (blk_cell BK133.out 2).trans rfl; have hcz18_3 : w17.cell? ⟨gb133, 3, none⟩ = some (.string ((rd_T24 l0 x7_1).f3)) := (blk_cell BK133.out 3).trans rfl; have hfz18_0 := blk_frozen BK133.out 0; have hfz18_1 := blk_frozen BK133.out 1; have hfz18_2 := blk_frozen BK133.out 2; have hfz18_3 := blk_frozen BK133.out 3) | (go_at_call 15; (with_reducible refine (spec_LikeOK.calls k1 ((rd_T24 l0 x7_1).f0) _ _ ((rd_T24 l0 x7_1).f1) ((rd_T24 l0 x7_1).f2) ((rd_T24 l0 x7_1).f3) true _ ?side1 ?side2 A9.out).mono ?_); (case side1 => repeat (first | exact (Kd.C_below HR132_1.out HB.out) | (with_reducible refine Kd.C_alloc ?_ _) | (with_reducible refine Kd.C_drewN ?_ _) | (with_reducible refine Kd.C_drew ?_))); (case side2 => exact HC132_1.out); rintro e w19 ⟨rfl, hb⟩; have n0_ := Aside0.mk (Kd.R_below (by (with_reducible repeat (first | apply Kd.R_alloc | apply Kd.R_drewN | apply Kd.R_drew)); exact HO136.out) hb); have n1_ := Aside0.mk (blk_below (g := gb133) (o := .cells #[.bool ((rd_T24 l0 x7_1).f0), .slice A132_1 ((rd_T24 l0 x7_1).f1).length c132_1, .string ((rd_T24 l0 x7_1).f2), .string ((rd_T24 l0 x7_1).f3)] 24 (0, 0)) (by (with_reducible repeat (first | refine blk_drewN ?_ _ | refine blk_drew ?_ | refine blk_alloc ?_ _)); exact BK133.out) hb); have n2_ := Aside0.mk (below_step (by repeat (first | (with_reducible first | exact HB.out | apply below_alloc | apply pw_below_drewN | apply below_drew1 | refine below_set ?_ GE133.out) | exact HB.out)) hb); clear HO136; clear BK133; clear HB; have HO136 := n0_; have BK133 := n1_; have HB := n2_; clear n0_ n1_ n2_; (try clear hb); (try clear hb2); (try clear hk); (try clear hi)))
               go_roundg k1
               case measure => have := HK1.out; omega
               case rel => exact ⟨(wrap64 (x7_1 + 1)), (by first | rfl | (simp; done) | (simp [*]; done) | (simp [bne_nil_]; done)), H', ⟨by have := HK1.out; omega⟩, ⟨by repeat (first | (with_reducible first | exact HB.out | apply below_alloc | apply pw_below_drewN | apply below_drew1 | refine below_set ?_ GE133.out) | exact HB.out)⟩⟩
             · replace c10 := Bool.eq_false_iff.mpr c10
               subst c10
               have H1 : (some false) = some r := by rw [if_neg (show ¬ (false = true) by decide)] at H; exact H
               clear H
               have H := H1
               clear H1
               obtain rfl := Option.some.inj H
               have p132 : 0 ≤ (x7_1 : Int) := of_decide_eq_true (by first | (with_reducible assumption) | assumption)
               have q132 : x7_1 < (l0.length : Int) := of_decide_eq_true (by first | (with_reducible assumption) | assumption)
               obtain ⟨ad132, A132_1, c132_1, e132, hx132_0, hx132_1, hx132_2, hx132_3, hl132_1, hi132_1⟩ := at_T24 HR0.out x7_1 p132 q132
               cases e132
               replace hx132_0 := (HB.out.cell (World.block_lt_of_cell? w _ hx132_0)).trans hx132_0
               replace hx132_1 := (HB.out.cell (World.block_lt_of_cell? w _ hx132_1)).trans hx132_1
               replace hx132_2 := (HB.out.cell (World.block_lt_of_cell? w _ hx132_2)).trans hx132_2
               replace hx132_3 := (HB.out.cell (World.block_lt_of_cell? w _ hx132_3)).trans hx132_3
               have HR132_1 := Aside0.mk hi132_1
               have HC132_1 := Aside0.mk hl132_1
               clear hi132_1 hl132_1
               replace p132 := eq_true p132
               replace q132 := eq_true q132
               go_wp2_with (first | ((with_reducible refine gate_dst (N := 4) rfl ?_); refine box_event ?hg (N := 4) ?hd (cs := #[.bool false, .slice none 0 0, .string (⟨#[]⟩ : ByteArray), .string (⟨#[]⟩ : ByteArray)]) (t := 24) ?hr ?_; (case hd => rfl); (case hg => rfl); (case hr => first | (go_simp; done) | (go_simp; rfl)); intro gb133 hg w20 hbox hb; have n0_ := Aside0.mk (below_step (by repeat (first | (with_reducible first | exact HB.out | apply below_alloc | apply pw_below_drewN | apply below_drew1) | exact HB.out)) hb); have n1_ := Aside0.mk (hbox); have n2_ := Aside0.mk ((by rw [hg]; exact (below_size (by repeat (first | (with_reducible first | exact HB.out | apply below_alloc | apply pw_below_drewN | apply below_drew1) | exact HB.out))) : w.heap.size ≤ gb133)); have n3_ := Aside0.mk ((by rw [hg]; exact (below_size (by repeat (first | (with_reducible first | exact HB.out | apply below_alloc | apply pw_below_drewN | apply below_drew1) | exact HB.out))) : w.heap.size ≤ gb133)); clear HB; have HB := n0_; have BK133 := n1_; have GW133 := n2_; have GE133 := n3_; clear n0_ n1_ n2_ n3_; clear hb hbox hg; have hcz21_0 : w20.cell? ⟨gb133, 0, none⟩ = some (.bool false) := (blk_cell BK133.out 0).trans rfl; have hcz21_1 : w20.cell? ⟨gb133, 1, none⟩ = some (.slice none 0 0) := (blk_cell BK133.out 1).trans rfl; have hcz21_2 : w20.cell? ⟨gb133, 2, none⟩ = some (.string (⟨#[]⟩ : ByteArray)) := (blk_cell BK133.out 2).trans rfl; have hcz21_3 : w20.cell? ⟨gb133, 3, none⟩ = some (.string (⟨#[]⟩ : ByteArray)) := (blk_cell BK133.out 3).trans rfl; have hfz21_0 := blk_frozen BK133.out 0; have hfz21_1 := blk_frozen BK133.out 1; have hfz21_2 := blk_frozen BK133.out 2; have hfz21_3 := blk_frozen BK133.out 3) | ((with_reducible refine gate_dst (N := 15) rfl ?_); refine Kd.R_lit Kd.string _ 9 ?hg (N := 15) ?hd (xs := ([(rd_T24 l0 x7_1).f2, (rd_T24 l0 x7_1).f3] : List ByteArray)) (inner := [.string ((rd_T24 l0 x7_1).f2), .string ((rd_T24 l0 x7_1).f3)]) (ok := fun _ => True) (okp := fun _ => True) ?hr ?hp (fun _ hk => hk) trivial (Below.refl _ _) (Nat.le_refl _) (by simp) ?_; (case hd => rfl); (case hg => rfl); (case hr => first | (go_simp; done) | (go_simp; rfl)); (case hp => exact (Reps.one (show Kd.M Kd.string _ _ _ ((rd_T24 l0 x7_1).f2) [.string ((rd_T24 l0 x7_1).f2)] from rfl) (Reps.one (show Kd.M Kd.string _ _ _ ((rd_T24 l0 x7_1).f3) [.string ((rd_T24 l0 x7_1).f3)] from rfl) (Reps.none _ _)))); intro v135 w22 ho23 hb hg_ hnew_; clear hg_ hnew_; (first | rw [← Ny134.out] at ho23 | (simp only [Int.reduceToNat] at ho23; rw [← Ny134.out] at ho23)); have n0_ := Aside0.mk (Kd.R_lower ho23 (below_size (by repeat (first | (with_reducible first | exact HB.out | apply below_alloc | apply pw_below_drewN | apply below_drew1 | refine below_set ?_ GE133.out) | exact HB.out)))); have n1_ := Aside0.mk (blk_below (g := gb133) (o := .cells #[.bool ((rd_T24 l0 x7_1).f0), .slice A132_1 ((rd_T24 l0 x7_1).f1).length c132_1, .string ((rd_T24 l0 x7_1).f2), .string ((rd_T24 l0 x7_1).f3)] 24 (0, 0)) (by (with_reducible repeat (first | refine blk_drewN ?_ _ | refine blk_drew ?_ | refine blk_alloc ?_ _)); refine blk_put (cs := #[.bool ((rd_T24 l0 x7_1).f0), .slice A132_1 ((rd_T24 l0 x7_1).f1).length c132_1, .string ((rd_T24 l0 x7_1).f2), .string (⟨#[]⟩ : ByteArray)]) ?_ 3 _ rfl; (with_reducible repeat (first | refine blk_drewN ?_ _ | refine blk_drew ?_ | refine blk_alloc ?_ _)); refine blk_put (cs := #[.bool ((rd_T24 l0 x7_1).f0), .slice A132_1 ((rd_T24 l0 x7_1).f1).length c132_1, .string (⟨#[]⟩ : ByteArray), .string (⟨#[]⟩ : ByteArray)]) ?_ 2 _ rfl; (with_reducible repeat (first | refine blk_drewN ?_ _ | refine blk_drew ?_ | refine blk_alloc ?_ _)); refine blk_put (cs := #[.bool ((rd_T24 l0 x7_1).f0), .slice none 0 0, .string (⟨#[]⟩ : ByteArray), .string (⟨#[]⟩ : ByteArray)]) ?_ 1 _ rfl; (with_reducible repeat (first | refine blk_drewN ?_ _ | refine blk_drew ?_ | refine blk_alloc ?_ _)); refine blk_put (cs := #[.bool false, .slice none 0 0, .string (⟨#[]⟩ : ByteArray), .string (⟨#[]⟩ : ByteArray)]) ?_ 0 _ rfl; (with_reducible repeat (first | refine blk_drewN ?_ _ | refine blk_drew ?_ | refine blk_alloc ?_ _)); exact BK133.out) hb); have n2_ := Aside0.mk (below_step (by repeat (first | (with_reducible first | exact HB.out | apply below_alloc | apply pw_below_drewN | apply below_drew1 | refine below_set ?_ GE133.out) | exact HB.out)) hb); clear BK133; clear HB; have HO136 := n0_; have BK133 := n1_; have HB := n2_; clear n0_ n1_ n2_; clear hb ho23; obtain ⟨Ao24, co24, eo24⟩ := Kd.R_slice HO136.out; subst eo24) | ((with_reducible refine gate_callee (f := 13) rfl ?_); refine goesL_ (some 16) rfl rfl Tryz.func13 (by kernel_rfl) rfl #[.slice Ao24 y134.length co24] rfl (by (try simp only [List.map_toArray, List.map_cons, List.map_nil]); first | done | rfl | (simp only [List.length_drop, List.length_take]; rfl)) ?_; (with_reducible refine (laws_short.calls k1 _ _ y134 true _ ?side1 ?side2 A5.out).mono ?_); (case side1 => repeat (first | exact (Kd.R_reads' HO136.out).2.2 | (with_reducible refine Kd.C_alloc ?_ _) | (with_reducible refine Kd.C_drewN ?_ _) | (with_reducible refine Kd.C_drew ?_))); (case side2 => exact (Kd.R_reads' HO136.out).2.1); rintro e w' ⟨rfl, ⟨nd, rfl⟩⟩; refine ⟨_, rfl, ?_⟩; have hcz25_0 : w22.cell? ⟨gb133, 0, none⟩ = some (.bool ((rd_T24 l0 x7_1).f0)) := (blk_cell BK133.out 0).trans rfl; have hcz25_1 : w22.cell? ⟨gb133, 1, none⟩ = some (.slice A132_1 ((rd_T24 l0 x7_1).f1).length c132_1) := (blk_cell BK133.out 1).trans rfl; have hcz25_2 : w22.cell? ⟨gb133, 2, none⟩ = some (.string ((rd_T24 l0 x7_1).f2)) := (blk_cell BK133.out 2).trans rfl; have hcz25_3 : w22.cell? ⟨gb133, 3, none⟩ = some (.string ((rd_T24 l0 x7_1).f3)) := (blk_cell BK133.out 3).trans rfl; have hfz25_0 := blk_frozen BK133.out 0; have hfz25_1 := blk_frozen BK133.out 1; have hfz25_2 := blk_frozen BK133.out 2; have hfz25_3 := blk_frozen BK133.out 3) | (go_at_call 14; (with_reducible refine (laws_numbers.calls k1 _ _ ((rd_T24 l0 x7_1).f1) true _ ?side1 ?side2 A7.out).mono ?_); (case side1 => repeat (first | exact (Kd.C_below HR132_1.out (by repeat (first | (with_reducible first | exact HB.out | apply below_alloc | apply pw_below_drewN | apply below_drew1 | refine below_set ?_ GE133.out) | exact HB.out))) | (with_reducible refine Kd.C_alloc ?_ _) | (with_reducible refine Kd.C_drewN ?_ _) | (with_reducible refine Kd.C_drew ?_))); (case side2 => exact HC132_1.out); rintro e w26 ⟨rfl, hb⟩; have n0_ := Aside0.mk (Kd.R_below (by (with_reducible repeat (first | apply Kd.R_alloc | apply Kd.R_drewN | apply Kd.R_drew)); exact HO136.out) hb); have n1_ := Aside0.mk (blk_below (g := gb133) (o := .cells #[.bool ((rd_T24 l0 x7_1).f0), .slice A132_1 ((rd_T24 l0 x7_1).f1).length c132_1, .string ((rd_T24 l0 x7_1).f2), .string ((rd_T24 l0 x7_1).f3)] 24 (0, 0)) (by (with_reducible repeat (first | refine blk_drewN ?_ _ | refine blk_drew ?_ | refine blk_alloc ?_ _)); exact BK133.out) hb); have n2_ := Aside0.mk (below_step (by repeat (first | (with_reducible first | exact HB.out | apply below_alloc | apply pw_below_drewN | apply below_drew1 | refine below_set ?_ GE133.out) | exact HB.out)) hb); clear HO136; clear BK133; clear HB; have HO136 := n0_; have BK133 := n1_; have HB := n2_; clear n0_ n1_ n2_; (try clear hb); (try clear hb2); (try clear hk); (try clear hi); have hcz27_0 : w26.cell? ⟨gb133, 0, none⟩ = some (.bool ((rd_T24 l0 x7_1).f0)) := (blk_cell BK133.out 0).trans rfl; have hcz27_1 : w26.cell? ⟨gb133, 1, none⟩ = some (.slice A132_1 ((rd_T24 l0 x7_1).f1).length c132_1) := (blk_cell BK133.out 1).trans rfl; have hcz27_2 : w26.cell? ⟨gb133, 2, none⟩ = some (.string ((rd_T24 l0 x7_1).f2)) := (blk_cell BK133.out 2).trans rfl; have hcz27_3 : w26.cell? ⟨gb133, 3, none⟩ = some (.string ((rd_T24 l0 x7_1).f3)) := (blk_cell BK133.out 3).trans rfl; have hfz27_0 := blk_frozen BK133.out 0; have hfz27_1 := blk_frozen BK133.out 1; have hfz27_2 := blk_frozen BK133.out 2; have hfz27_3 := blk_frozen BK133.out 3) | (go_at_call 15; (with_reducible refine (spec_LikeOK.calls k1 ((rd_T24 l0 x7_1).f0) _ _ ((rd_T24 l0 x7_1).f1) ((rd_T24 l0 x7_1).f2) ((rd_T24 l0 x7_1).f3) false _ ?side1 ?side2 A9.out).mono ?_); (case side1 => repeat (first | exact (Kd.C_below HR132_1.out HB.out) | (with_reducible refine Kd.C_alloc ?_ _) | (with_reducible refine Kd.C_drewN ?_ _) | (with_reducible refine Kd.C_drew ?_))); (case side2 => exact HC132_1.out); rintro e w28 ⟨rfl, hb⟩; have n0_ := Aside0.mk (Kd.R_below (by (with_reducible repeat (first | apply Kd.R_alloc | apply Kd.R_drewN | apply Kd.R_drew)); exact HO136.out) hb); have n1_ := Aside0.mk (blk_below (g := gb133) (o := .cells #[.bool ((rd_T24 l0 x7_1).f0), .slice A132_1 ((rd_T24 l0 x7_1).f1).length c132_1, .string ((rd_T24 l0 x7_1).f2), .string ((rd_T24 l0 x7_1).f3)] 24 (0, 0)) (by (with_reducible repeat (first | refine blk_drewN ?_ _ | refine blk_drew ?_ | refine blk_alloc ?_ _)); exact BK133.out) hb); have n2_ := Aside0.mk (below_step (by repeat (first | (with_reducible first | exact HB.out | apply below_alloc | apply pw_below_drewN | apply below_drew1 | refine below_set ?_ GE133.out) | exact HB.out)) hb); clear HO136; clear BK133; clear HB; have HO136 := n0_; have BK133 := n1_; have HB := n2_; clear n0_ n1_ n2_; (try clear hb); (try clear hb2); (try clear hk); (try clear hi)))
               go_ret
               exact ⟨by first | rfl | (simp [errW_none, errW_some] <;> rfl) | (simp [*, errW_none, errW_some] <;> rfl) | (simp [bne_nil_]; done), by repeat (first | (with_reducible first | exact HB.out | apply below_alloc | apply pw_below_drewN | apply below_drew1 | refine below_set ?_ GE133.out) | exact HB.out)⟩
           · replace c8 := Bool.eq_false_iff.mpr c8
             subst c8
             have H1 : (some false) = some r := by rw [if_neg (show ¬ (false = true) by decide)] at H; exact H
             clear H
             have H := H1
             clear H1
             obtain rfl := Option.some.inj H
             have p132 : 0 ≤ (x7_1 : Int) := of_decide_eq_true (by first | (with_reducible assumption) | assumption)
             have q132 : x7_1 < (l0.length : Int) := of_decide_eq_true (by first | (with_reducible assumption) | assumption)
             obtain ⟨ad132, A132_1, c132_1, e132, hx132_0, hx132_1, hx132_2, hx132_3, hl132_1, hi132_1⟩ := at_T24 HR0.out x7_1 p132 q132
             cases e132
             replace hx132_0 := (HB.out.cell (World.block_lt_of_cell? w _ hx132_0)).trans hx132_0
             replace hx132_1 := (HB.out.cell (World.block_lt_of_cell? w _ hx132_1)).trans hx132_1
             replace hx132_2 := (HB.out.cell (World.block_lt_of_cell? w _ hx132_2)).trans hx132_2
             replace hx132_3 := (HB.out.cell (World.block_lt_of_cell? w _ hx132_3)).trans hx132_3
             have HR132_1 := Aside0.mk hi132_1
             have HC132_1 := Aside0.mk hl132_1
             clear hi132_1 hl132_1
             replace p132 := eq_true p132
             replace q132 := eq_true q132
             go_wp2_with (first | ((with_reducible refine gate_dst (N := 4) rfl ?_); refine box_event ?hg (N := 4) ?hd (cs := #[.bool false, .slice none 0 0, .string (⟨#[]⟩ : ByteArray), .string (⟨#[]⟩ : ByteArray)]) (t := 24) ?hr ?_; (case hd => rfl); (case hg => rfl); (case hr => first | (go_simp; done) | (go_simp; rfl)); intro gb133 hg w29 hbox hb; have n0_ := Aside0.mk (below_step (by repeat (first | (with_reducible first | exact HB.out | apply below_alloc | apply pw_below_drewN | apply below_drew1) | exact HB.out)) hb); have n1_ := Aside0.mk (hbox); have n2_ := Aside0.mk ((by rw [hg]; exact (below_size (by repeat (first | (with_reducible first | exact HB.out | apply below_alloc | apply pw_below_drewN | apply below_drew1) | exact HB.out))) : w.heap.size ≤ gb133)); have n3_ := Aside0.mk ((by rw [hg]; exact (below_size (by repeat (first | (with_reducible first | exact HB.out | apply below_alloc | apply pw_below_drewN | apply below_drew1) | exact HB.out))) : w.heap.size ≤ gb133)); clear HB; have HB := n0_; have BK133 := n1_; have GW133 := n2_; have GE133 := n3_; clear n0_ n1_ n2_ n3_; clear hb hbox hg; have hcz30_0 : w29.cell? ⟨gb133, 0, none⟩ = some (.bool false) := (blk_cell BK133.out 0).trans rfl; have hcz30_1 : w29.cell? ⟨gb133, 1, none⟩ = some (.slice none 0 0) := (blk_cell BK133.out 1).trans rfl; have hcz30_2 : w29.cell? ⟨gb133, 2, none⟩ = some (.string (⟨#[]⟩ : ByteArray)) := (blk_cell BK133.out 2).trans rfl; have hcz30_3 : w29.cell? ⟨gb133, 3, none⟩ = some (.string (⟨#[]⟩ : ByteArray)) := (blk_cell BK133.out 3).trans rfl; have hfz30_0 := blk_frozen BK133.out 0; have hfz30_1 := blk_frozen BK133.out 1; have hfz30_2 := blk_frozen BK133.out 2; have hfz30_3 := blk_frozen BK133.out 3) | ((with_reducible refine gate_dst (N := 15) rfl ?_); refine Kd.R_lit Kd.string _ 9 ?hg (N := 15) ?hd (xs := ([(rd_T24 l0 x7_1).f2, (rd_T24 l0 x7_1).f3] : List ByteArray)) (inner := [.string ((rd_T24 l0 x7_1).f2), .string ((rd_T24 l0 x7_1).f3)]) (ok := fun _ => True) (okp := fun _ => True) ?hr ?hp (fun _ hk => hk) trivial (Below.refl _ _) (Nat.le_refl _) (by simp) ?_; (case hd => rfl); (case hg => rfl); (case hr => first | (go_simp; done) | (go_simp; rfl)); (case hp => exact (Reps.one (show Kd.M Kd.string _ _ _ ((rd_T24 l0 x7_1).f2) [.string ((rd_T24 l0 x7_1).f2)] from rfl) (Reps.one (show Kd.M Kd.string _ _ _ ((rd_T24 l0 x7_1).f3) [.string ((rd_T24 l0 x7_1).f3)] from rfl) (Reps.none _ _)))); intro v135 w31 ho32 hb hg_ hnew_; clear hg_ hnew_; (first | rw [← Ny134.out] at ho32 | (simp only [Int.reduceToNat] at ho32; rw [← Ny134.out] at ho32)); have n0_ := Aside0.mk (Kd.R_lower ho32 (below_size (by repeat (first | (with_reducible first | exact HB.out | apply below_alloc | apply pw_below_drewN | apply below_drew1 | refine below_set ?_ GE133.out) | exact HB.out)))); have n1_ := Aside0.mk (blk_below (g := gb133) (o := .cells #[.bool ((rd_T24 l0 x7_1).f0), .slice A132_1 ((rd_T24 l0 x7_1).f1).length c132_1, .string ((rd_T24 l0 x7_1).f2), .string ((rd_T24 l0 x7_1).f3)] 24 (0, 0)) (by (with_reducible repeat (first | refine blk_drewN ?_ _ | refine blk_drew ?_ | refine blk_alloc ?_ _)); refine blk_put (cs := #[.bool ((rd_T24 l0 x7_1).f0), .slice A132_1 ((rd_T24 l0 x7_1).f1).length c132_1, .string ((rd_T24 l0 x7_1).f2), .string (⟨#[]⟩ : ByteArray)]) ?_ 3 _ rfl; (with_reducible repeat (first | refine blk_drewN ?_ _ | refine blk_drew ?_ | refine blk_alloc ?_ _)); refine blk_put (cs := #[.bool ((rd_T24 l0 x7_1).f0), .slice A132_1 ((rd_T24 l0 x7_1).f1).length c132_1, .string (⟨#[]⟩ : ByteArray), .string (⟨#[]⟩ : ByteArray)]) ?_ 2 _ rfl; (with_reducible repeat (first | refine blk_drewN ?_ _ | refine blk_drew ?_ | refine blk_alloc ?_ _)); refine blk_put (cs := #[.bool ((rd_T24 l0 x7_1).f0), .slice none 0 0, .string (⟨#[]⟩ : ByteArray), .string (⟨#[]⟩ : ByteArray)]) ?_ 1 _ rfl; (with_reducible repeat (first | refine blk_drewN ?_ _ | refine blk_drew ?_ | refine blk_alloc ?_ _)); refine blk_put (cs := #[.bool false, .slice none 0 0, .string (⟨#[]⟩ : ByteArray), .string (⟨#[]⟩ : ByteArray)]) ?_ 0 _ rfl; (with_reducible repeat (first | refine blk_drewN ?_ _ | refine blk_drew ?_ | refine blk_alloc ?_ _)); exact BK133.out) hb); have n2_ := Aside0.mk (below_step (by repeat (first | (with_reducible first | exact HB.out | apply below_alloc | apply pw_below_drewN | apply below_drew1 | refine below_set ?_ GE133.out) | exact HB.out)) hb); clear BK133; clear HB; have HO136 := n0_; have BK133 := n1_; have HB := n2_; clear n0_ n1_ n2_; clear hb ho32; obtain ⟨Ao33, co33, eo33⟩ := Kd.R_slice HO136.out; subst eo33) | ((with_reducible refine gate_callee (f := 13) rfl ?_); refine goesL_ (some 16) rfl rfl Tryz.func13 (by kernel_rfl) rfl #[.slice Ao33 y134.length co33] rfl (by (try simp only [List.map_toArray, List.map_cons, List.map_nil]); first | done | rfl | (simp only [List.length_drop, List.length_take]; rfl)) ?_; (with_reducible refine (laws_short.calls k1 _ _ y134 true _ ?side1 ?side2 A5.out).mono ?_); (case side1 => repeat (first | exact (Kd.R_reads' HO136.out).2.2 | (with_reducible refine Kd.C_alloc ?_ _) | (with_reducible refine Kd.C_drewN ?_ _) | (with_reducible refine Kd.C_drew ?_))); (case side2 => exact (Kd.R_reads' HO136.out).2.1); rintro e w' ⟨rfl, ⟨nd, rfl⟩⟩; refine ⟨_, rfl, ?_⟩; have hcz34_0 : w31.cell? ⟨gb133, 0, none⟩ = some (.bool ((rd_T24 l0 x7_1).f0)) := (blk_cell BK133.out 0).trans rfl; have hcz34_1 : w31.cell? ⟨gb133, 1, none⟩ = some (.slice A132_1 ((rd_T24 l0 x7_1).f1).length c132_1) := (blk_cell BK133.out 1).trans rfl; have hcz34_2 : w31.cell? ⟨gb133, 2, none⟩ = some (.string ((rd_T24 l0 x7_1).f2)) := (blk_cell BK133.out 2).trans rfl; have hcz34_3 : w31.cell? ⟨gb133, 3, none⟩ = some (.string ((rd_T24 l0 x7_1).f3)) := (blk_cell BK133.out 3).trans rfl; have hfz34_0 := blk_frozen BK133.out 0; have hfz34_1 := blk_frozen BK133.out 1; have hfz34_2 := blk_frozen BK133.out 2; have hfz34_3 := blk_frozen BK133.out 3) | (go_at_call 14; (with_reducible refine (laws_numbers.calls k1 _ _ ((rd_T24 l0 x7_1).f1) false _ ?side1 ?side2 A7.out).mono ?_); (case side1 => repeat (first | exact (Kd.C_below HR132_1.out (by repeat (first | (with_reducible first | exact HB.out | apply below_alloc | apply pw_below_drewN | apply below_drew1 | refine below_set ?_ GE133.out) | exact HB.out))) | (with_reducible refine Kd.C_alloc ?_ _) | (with_reducible refine Kd.C_drewN ?_ _) | (with_reducible refine Kd.C_drew ?_))); (case side2 => exact HC132_1.out); rintro e w35 ⟨rfl, hb⟩; have n0_ := Aside0.mk (Kd.R_below (by (with_reducible repeat (first | apply Kd.R_alloc | apply Kd.R_drewN | apply Kd.R_drew)); exact HO136.out) hb); have n1_ := Aside0.mk (blk_below (g := gb133) (o := .cells #[.bool ((rd_T24 l0 x7_1).f0), .slice A132_1 ((rd_T24 l0 x7_1).f1).length c132_1, .string ((rd_T24 l0 x7_1).f2), .string ((rd_T24 l0 x7_1).f3)] 24 (0, 0)) (by (with_reducible repeat (first | refine blk_drewN ?_ _ | refine blk_drew ?_ | refine blk_alloc ?_ _)); exact BK133.out) hb); have n2_ := Aside0.mk (below_step (by repeat (first | (with_reducible first | exact HB.out | apply below_alloc | apply pw_below_drewN | apply below_drew1 | refine below_set ?_ GE133.out) | exact HB.out)) hb); clear HO136; clear BK133; clear HB; have HO136 := n0_; have BK133 := n1_; have HB := n2_; clear n0_ n1_ n2_; (try clear hb); (try clear hb2); (try clear hk); (try clear hi)))
             go_ret
             exact ⟨by first | rfl | (simp [errW_none, errW_some] <;> rfl) | (simp [*, errW_none, errW_some] <;> rfl) | (simp [bne_nil_]; done), by repeat (first | (with_reducible first | exact HB.out | apply below_alloc | apply pw_below_drewN | apply below_drew1 | refine below_set ?_ GE133.out) | exact HB.out)⟩
         · replace c6 := Bool.eq_false_iff.mpr c6
           subst c6
           have H1 : (some false) = some r := by rw [if_neg (show ¬ (false = true) by decide)] at H; exact H
           clear H
           have H := H1
           clear H1
           obtain rfl := Option.some.inj H
           have p132 : 0 ≤ (x7_1 : Int) := of_decide_eq_true (by first | (with_reducible assumption) | assumption)
           have q132 : x7_1 < (l0.length : Int) := of_decide_eq_true (by first | (with_reducible assumption) | assumption)
           obtain ⟨ad132, A132_1, c132_1, e132, hx132_0, hx132_1, hx132_2, hx132_3, hl132_1, hi132_1⟩ := at_T24 HR0.out x7_1 p132 q132
           cases e132
           replace hx132_0 := (HB.out.cell (World.block_lt_of_cell? w _ hx132_0)).trans hx132_0
           replace hx132_1 := (HB.out.cell (World.block_lt_of_cell? w _ hx132_1)).trans hx132_1
           replace hx132_2 := (HB.out.cell (World.block_lt_of_cell? w _ hx132_2)).trans hx132_2
           replace hx132_3 := (HB.out.cell (World.block_lt_of_cell? w _ hx132_3)).trans hx132_3
           have HR132_1 := Aside0.mk hi132_1
           have HC132_1 := Aside0.mk hl132_1
           clear hi132_1 hl132_1
           replace p132 := eq_true p132
           replace q132 := eq_true q132
           go_wp2_with (first | ((with_reducible refine gate_dst (N := 4) rfl ?_); refine box_event ?hg (N := 4) ?hd (cs := #[.bool false, .slice none 0 0, .string (⟨#[]⟩ : ByteArray), .string (⟨#[]⟩ : ByteArray)]) (t := 24) ?hr ?_; (case hd => rfl); (case hg => rfl); (case hr => first | (go_simp; done) | (go_simp; rfl)); intro gb133 hg w36 hbox hb; have n0_ := Aside0.mk (below_step (by repeat (first | (with_reducible first | exact HB.out | apply below_alloc | apply pw_below_drewN | apply below_drew1) | exact HB.out)) hb); have n1_ := Aside0.mk (hbox); have n2_ := Aside0.mk ((by rw [hg]; exact (below_size (by repeat (first | (with_reducible first | exact HB.out | apply below_alloc | apply pw_below_drewN | apply below_drew1) | exact HB.out))) : w.heap.size ≤ gb133)); have n3_ := Aside0.mk ((by rw [hg]; exact (below_size (by repeat (first | (with_reducible first | exact HB.out | apply below_alloc | apply pw_below_drewN | apply below_drew1) | exact HB.out))) : w.heap.size ≤ gb133)); clear HB; have HB := n0_; have BK133 := n1_; have GW133 := n2_; have GE133 := n3_; clear n0_ n1_ n2_ n3_; clear hb hbox hg; have hcz37_0 : w36.cell? ⟨gb133, 0, none⟩ = some (.bool false) := (blk_cell BK133.out 0).trans rfl; have hcz37_1 : w36.cell? ⟨gb133, 1, none⟩ = some (.slice none 0 0) := (blk_cell BK133.out 1).trans rfl; have hcz37_2 : w36.cell? ⟨gb133, 2, none⟩ = some (.string (⟨#[]⟩ : ByteArray)) := (blk_cell BK133.out 2).trans rfl; have hcz37_3 : w36.cell? ⟨gb133, 3, none⟩ = some (.string (⟨#[]⟩ : ByteArray)) := (blk_cell BK133.out 3).trans rfl; have hfz37_0 := blk_frozen BK133.out 0; have hfz37_1 := blk_frozen BK133.out 1; have hfz37_2 := blk_frozen BK133.out 2; have hfz37_3 := blk_frozen BK133.out 3) | ((with_reducible refine gate_dst (N := 15) rfl ?_); refine Kd.R_lit Kd.string _ 9 ?hg (N := 15) ?hd (xs := ([(rd_T24 l0 x7_1).f2, (rd_T24 l0 x7_1).f3] : List ByteArray)) (inner := [.string ((rd_T24 l0 x7_1).f2), .string ((rd_T24 l0 x7_1).f3)]) (ok := fun _ => True) (okp := fun _ => True) ?hr ?hp (fun _ hk => hk) trivial (Below.refl _ _) (Nat.le_refl _) (by simp) ?_; (case hd => rfl); (case hg => rfl); (case hr => first | (go_simp; done) | (go_simp; rfl)); (case hp => exact (Reps.one (show Kd.M Kd.string _ _ _ ((rd_T24 l0 x7_1).f2) [.string ((rd_T24 l0 x7_1).f2)] from rfl) (Reps.one (show Kd.M Kd.string _ _ _ ((rd_T24 l0 x7_1).f3) [.string ((rd_T24 l0 x7_1).f3)] from rfl) (Reps.none _ _)))); intro v135 w38 ho39 hb hg_ hnew_; clear hg_ hnew_; (first | rw [← Ny134.out] at ho39 | (simp only [Int.reduceToNat] at ho39; rw [← Ny134.out] at ho39)); have n0_ := Aside0.mk (Kd.R_lower ho39 (below_size (by repeat (first | (with_reducible first | exact HB.out | apply below_alloc | apply pw_below_drewN | apply below_drew1 | refine below_set ?_ GE133.out) | exact HB.out)))); have n1_ := Aside0.mk (blk_below (g := gb133) (o := .cells #[.bool ((rd_T24 l0 x7_1).f0), .slice A132_1 ((rd_T24 l0 x7_1).f1).length c132_1, .string ((rd_T24 l0 x7_1).f2), .string ((rd_T24 l0 x7_1).f3)] 24 (0, 0)) (by (with_reducible repeat (first | refine blk_drewN ?_ _ | refine blk_drew ?_ | refine blk_alloc ?_ _)); refine blk_put (cs := #[.bool ((rd_T24 l0 x7_1).f0), .slice A132_1 ((rd_T24 l0 x7_1).f1).length c132_1, .string ((rd_T24 l0 x7_1).f2), .string (⟨#[]⟩ : ByteArray)]) ?_ 3 _ rfl; (with_reducible repeat (first | refine blk_drewN ?_ _ | refine blk_drew ?_ | refine blk_alloc ?_ _)); refine blk_put (cs := #[.bool ((rd_T24 l0 x7_1).f0), .slice A132_1 ((rd_T24 l0 x7_1).f1).length c132_1, .string (⟨#[]⟩ : ByteArray), .string (⟨#[]⟩ : ByteArray)]) ?_ 2 _ rfl; (with_reducible repeat (first | refine blk_drewN ?_ _ | refine blk_drew ?_ | refine blk_alloc ?_ _)); refine blk_put (cs := #[.bool ((rd_T24 l0 x7_1).f0), .slice none 0 0, .string (⟨#[]⟩ : ByteArray), .string (⟨#[]⟩ : ByteArray)]) ?_ 1 _ rfl; (with_reducible repeat (first | refine blk_drewN ?_ _ | refine blk_drew ?_ | refine blk_alloc ?_ _)); refine blk_put (cs := #[.bool false, .slice none 0 0, .string (⟨#[]⟩ : ByteArray), .string (⟨#[]⟩ : ByteArray)]) ?_ 0 _ rfl; (with_reducible repeat (first | refine blk_drewN ?_ _ | refine blk_drew ?_ | refine blk_alloc ?_ _)); exact BK133.out) hb); have n2_ := Aside0.mk (below_step (by repeat (first | (with_reducible first | exact HB.out | apply below_alloc | apply pw_below_drewN | apply below_drew1 | refine below_set ?_ GE133.out) | exact HB.out)) hb); clear BK133; clear HB; have HO136 := n0_; have BK133 := n1_; have HB := n2_; clear n0_ n1_ n2_; clear hb ho39; obtain ⟨Ao40, co40, eo40⟩ := Kd.R_slice HO136.out; subst eo40) | ((with_reducible refine gate_callee (f := 13) rfl ?_); refine goesL_ (some 16) rfl rfl Tryz.func13 (by kernel_rfl) rfl #[.slice Ao40 y134.length co40] rfl (by (try simp only [List.map_toArray, List.map_cons, List.map_nil]); first | done | rfl | (simp only [List.length_drop, List.length_take]; rfl)) ?_; (with_reducible refine (laws_short.calls k1 _ _ y134 false _ ?side1 ?side2 A5.out).mono ?_); (case side1 => repeat (first | exact (Kd.R_reads' HO136.out).2.2 | (with_reducible refine Kd.C_alloc ?_ _) | (with_reducible refine Kd.C_drewN ?_ _) | (with_reducible refine Kd.C_drew ?_))); (case side2 => exact (Kd.R_reads' HO136.out).2.1); rintro e w' ⟨rfl, ⟨nd, rfl⟩⟩; refine ⟨_, rfl, ?_⟩))
           go_ret
           exact ⟨by first | rfl | (simp [errW_none, errW_some] <;> rfl) | (simp [*, errW_none, errW_some] <;> rfl) | (simp [bne_nil_]; done), by repeat (first | (with_reducible first | exact HB.out | apply below_alloc | apply pw_below_drewN | apply below_drew1 | refine below_set ?_ GE133.out) | exact HB.out)⟩
       · rw [if_neg c4] at H
         exact absurd H (by simp)
     · rw [if_neg c3] at H
       exact absurd H (by simp)
   · rw [if_neg c2] at H
     have c2b0 : decide (x7_1 < (l0.length : Int)) = false := decide_eq_false c2
     clear c2
     obtain rfl := Option.some.inj H
     go_wp2
     go_ret
     exact ⟨by first | rfl | (simp [errW_none, errW_some] <;> rfl) | (simp [*, errW_none, errW_some] <;> rfl) | (simp [bne_nil_]; done), by repeat (first | (with_reducible first | exact HB.out | apply below_alloc | apply pw_below_drewN | apply below_drew1) | exact HB.out)⟩

-- GIVEN: function 16 (spec_lower)

/-! ### spec_orderInts: function 21 -/
def spec_orderInts.f (a0 : Int) (a1 : Int) : Option (Int) := if a0 < a1 then (some (-1)) else (if a0 > a1 then (some 1) else (some 0))
set_option maxHeartbeats 8000000 in
set_option maxRecDepth 100000 in
theorem spec_orderInts.calls (a0 : Int) (a1 : Int) (r : Int) (w : World) (h : spec_orderInts.f a0 a1 = some r) :
 Calls Tryz.prog 21 #[.int .i64 a0, .int .i64 a1] w fun e w' => e = .returned (.int .i64 r) ∧ Drawn0 w w' := by
 have H : (if a0 < a1 then (some (-1)) else (if a0 > a1 then (some 1) else (some 0))) = some r := h
 clear h
 by_cases c3 : a0 < a1
 · rw [if_pos c3] at H
   have c3b0 : decide (a0 < a1) = true := decide_eq_true c3
   clear c3
   obtain rfl := Option.some.inj H
   go_enter Tryz.func21, Tryz.ntmps21
   go_wp2
   go_ret
   exact ⟨by first | rfl | (simp; done) | (simp [*]; done) | (simp [bne_nil_]; done), by repeat (first | exact Drawn0.refl _ | apply Drawn0.step)⟩
 · rw [if_neg c3] at H
   have c3b0 : decide (a0 < a1) = false := decide_eq_false c3
   clear c3
   by_cases c4 : a0 > a1
   · rw [if_pos c4] at H
     have c4b0 : decide (a1 < a0) = true := decide_eq_true c4
     clear c4
     obtain rfl := Option.some.inj H
     go_enter Tryz.func21, Tryz.ntmps21
     go_wp2
     go_ret
     exact ⟨by first | rfl | (simp; done) | (simp [*]; done) | (simp [bne_nil_]; done), by repeat (first | exact Drawn0.refl _ | apply Drawn0.step)⟩
   · rw [if_neg c4] at H
     have c4b0 : decide (a1 < a0) = false := decide_eq_false c4
     clear c4
     obtain rfl := Option.some.inj H
     go_enter Tryz.func21, Tryz.ntmps21
     go_wp2
     go_ret
     exact ⟨by first | rfl | (simp; done) | (simp [*]; done) | (simp [bne_nil_]; done), by repeat (first | exact Drawn0.refl _ | apply Drawn0.step)⟩

-- GIVEN: function 49 (spec_order)

/-! ### spec_intOrder: function 39 -/
mutual
def spec_intOrder.j2 : Nat → Bool → ByteArray → Bool → ByteArray → Option (Int)
 | 0, _, _, _, _ => none
 | k + 1, x141000, x141001, x142000, x142001 => if (x141001.size : Int) = (x142001.size : Int) then ((Giv.spec_order.f x141001 x142001).bind fun t146 => (some t146)) else ((spec_orderInts.f (x141001.size : Int) (x142001.size : Int)).bind fun t147 => (some t147))
def spec_intOrder.j0 : Nat → Bool → Bool → ByteArray → Bool → ByteArray → Option (Int)
 | 0, _, _, _, _, _ => none
 | k + 1, x9, x141000, x141001, x142000, x142001 => if x9 = true then (some (-1)) else (if x141000 = true then (spec_intOrder.j1 k false x141000 x141001 x142000 x142001) else (spec_intOrder.j1 k x142000 x141000 x141001 x142000 x142001))
def spec_intOrder.j1 : Nat → Bool → Bool → ByteArray → Bool → ByteArray → Option (Int)
 | 0, _, _, _, _, _ => none
 | k + 1, x17, x141000, x141001, x142000, x142001 => if x17 = true then (some 1) else (if x141000 = true then (spec_intOrder.j2 k x142000 x142001 x141000 x141001) else (spec_intOrder.j2 k x141000 x141001 x142000 x142001))
end
def spec_intOrder.f (k : Nat) (a0_0 : Bool) (a0_1 : ByteArray) (a1_0 : Bool) (a1_1 : ByteArray) : Option (Int) := (spec_numTidy.f k a0_0 a0_1).bind fun bt142 => ((spec_numTidy.f k a1_0 a1_1).bind fun bt144 => (if bt142.1 = true then (spec_intOrder.j0 k (!bt144.1) bt142.1 bt142.2 bt144.1 bt144.2) else (spec_intOrder.j0 k false bt142.1 bt142.2 bt144.1 bt144.2)))
theorem spec_intOrder.mono_l : ∀ k, (∀ y0 y1 y2 y3, LeO (spec_intOrder.j2 k y0 y1 y2 y3) (spec_intOrder.j2 (k + 1) y0 y1 y2 y3)) ∧ (∀ y0 y1 y2 y3 y4, LeO (spec_intOrder.j0 k y0 y1 y2 y3 y4) (spec_intOrder.j0 (k + 1) y0 y1 y2 y3 y4)) ∧ (∀ y0 y1 y2 y3 y4, LeO (spec_intOrder.j1 k y0 y1 y2 y3 y4) (spec_intOrder.j1 (k + 1) y0 y1 y2 y3 y4))
 | 0 => ⟨fun _ _ _ _ r h => by simp [spec_intOrder.j2] at h, fun _ _ _ _ _ r h => by simp [spec_intOrder.j0] at h, fun _ _ _ _ _ r h => by simp [spec_intOrder.j1] at h⟩
 | k + 1 => by
  obtain ⟨ih0, ih1, ih2⟩ := spec_intOrder.mono_l k
  refine ⟨?_, ?_, ?_⟩
  · intro y0 y1 y2 y3
    unfold spec_intOrder.j2
    repeat' first
    | (with_reducible exact ih0 _ _ _ _)
    | (with_reducible exact ih1 _ _ _ _ _)
    | (with_reducible exact ih2 _ _ _ _ _)
    | (with_reducible exact spec_numTidy.mono _ _ _)
    | (with_reducible exact LeO.refl _)
    | (with_reducible exact LeO.none _)
    | (with_reducible refine LeO.ite ?_ ?_)
    | (with_reducible refine LeO.bind ?_ (fun _ => ?_))
    | exact ih0 _ _ _ _
    | exact ih1 _ _ _ _ _
    | exact ih2 _ _ _ _ _
    | exact spec_numTidy.mono _ _ _
    | exact LeO.none _
    | refine LeO.ite ?_ ?_
    | refine LeO.bind ?_ (fun _ => ?_)
  · intro y0 y1 y2 y3 y4
    unfold spec_intOrder.j0
    repeat' first
    | (with_reducible exact ih0 _ _ _ _)
    | (with_reducible exact ih1 _ _ _ _ _)
    | (with_reducible exact ih2 _ _ _ _ _)
    | (with_reducible exact spec_numTidy.mono _ _ _)
    | (with_reducible exact LeO.refl _)
    | (with_reducible exact LeO.none _)
    | (with_reducible refine LeO.ite ?_ ?_)
    | (with_reducible refine LeO.bind ?_ (fun _ => ?_))
    | exact ih0 _ _ _ _
    | exact ih1 _ _ _ _ _
    | exact ih2 _ _ _ _ _
    | exact spec_numTidy.mono _ _ _
    | exact LeO.none _
    | refine LeO.ite ?_ ?_
    | refine LeO.bind ?_ (fun _ => ?_)
  · intro y0 y1 y2 y3 y4
    unfold spec_intOrder.j1
    repeat' first
    | (with_reducible exact ih0 _ _ _ _)
    | (with_reducible exact ih1 _ _ _ _ _)
    | (with_reducible exact ih2 _ _ _ _ _)
    | (with_reducible exact spec_numTidy.mono _ _ _)
    | (with_reducible exact LeO.refl _)
    | (with_reducible exact LeO.none _)
    | (with_reducible refine LeO.ite ?_ ?_)
    | (with_reducible refine LeO.bind ?_ (fun _ => ?_))
    | exact ih0 _ _ _ _
    | exact ih1 _ _ _ _ _
    | exact ih2 _ _ _ _ _
    | exact spec_numTidy.mono _ _ _
    | exact LeO.none _
    | refine LeO.ite ?_ ?_
    | refine LeO.bind ?_ (fun _ => ?_)
theorem spec_intOrder.mono : ∀ a0 a1 a2 a3 k, LeO (spec_intOrder.f k a0 a1 a2 a3) (spec_intOrder.f (k + 1) a0 a1 a2 a3) := by
 intro a0 a1 a2 a3 k
 obtain ⟨ih0, ih1, ih2⟩ := spec_intOrder.mono_l k
 unfold spec_intOrder.f
 repeat' first
  | (with_reducible exact ih0 _ _ _ _)
  | (with_reducible exact ih1 _ _ _ _ _)
  | (with_reducible exact ih2 _ _ _ _ _)
  | (with_reducible exact spec_numTidy.mono _ _ _)
  | (with_reducible exact LeO.refl _)
  | (with_reducible exact LeO.none _)
  | (with_reducible refine LeO.ite ?_ ?_)
  | (with_reducible refine LeO.bind ?_ (fun _ => ?_))
  | exact ih0 _ _ _ _
  | exact ih1 _ _ _ _ _
  | exact ih2 _ _ _ _ _
  | exact spec_numTidy.mono _ _ _
  | exact LeO.none _
  | refine LeO.ite ?_ ?_
  | refine LeO.bind ?_ (fun _ => ?_)
set_option maxHeartbeats 8000000 in
set_option maxRecDepth 100000 in
theorem spec_intOrder.calls (k : Nat) (a0_0 : Bool) (a0_1 : ByteArray) (a1_0 : Bool) (a1_1 : ByteArray) (r : Int) (w : World) (h : spec_intOrder.f k a0_0 a0_1 a1_0 a1_1 = some r) :
 Calls Tryz.prog 39 #[.agg #[.bool a0_0, .string a0_1], .agg #[.bool a1_0, .string a1_1]] w fun e w' => e = .returned (.int .i64 r) ∧ Below w.heap.size w w' := by
 have hu55 := Tryz.underlying55
 have HB := Aside0.mk (Below.refl w.heap.size w)
 have H : ((spec_numTidy.f k a0_0 a0_1).bind fun bt142 => ((spec_numTidy.f k a1_0 a1_1).bind fun bt144 => (if bt142.1 = true then (spec_intOrder.j0 k (!bt144.1) bt142.1 bt142.2 bt144.1 bt144.2) else (spec_intOrder.j0 k false bt142.1 bt142.2 bt144.1 bt144.2)))) = some r := h
 clear h
 replace H := Option.bind_eq_some_iff.mp H
 obtain ⟨⟨t142, t143⟩, A30, H⟩ := H
 replace H : ((spec_numTidy.f k a1_0 a1_1).bind fun bt144 => (if t142 = true then (spec_intOrder.j0 k (!bt144.1) t142 t143 bt144.1 bt144.2) else (spec_intOrder.j0 k false t142 t143 bt144.1 bt144.2))) = some r := H
 have A3 := Aside0.mk A30
 clear A30
 replace H := Option.bind_eq_some_iff.mp H
 obtain ⟨⟨t144, t145⟩, A40, H⟩ := H
 replace H : (if t142 = true then (spec_intOrder.j0 k (!t144) t142 t143 t144 t145) else (spec_intOrder.j0 k false t142 t143 t144 t145)) = some r := H
 have A4 := Aside0.mk A40
 clear A40
 have HC5 := Aside0.mk H
 clear H
 go_enter Tryz.func39, Tryz.ntmps39
 try go_wp2_with (first | ((with_reducible refine gate_dst (N := 2) rfl ?_); refine box_event ?hg (N := 2) ?hd (cs := #[.bool a0_0, .string a0_1]) (t := 55) ?hr ?_; (case hd => rfl); (case hg => rfl); (case hr => first | (go_simp; done) | (go_simp; rfl)); intro gb140 hg w6 hbox hb; have n0_ := Aside0.mk (below_step (by repeat (first | (with_reducible first | exact HB.out | apply below_alloc | apply pw_below_drewN | apply below_drew1) | exact HB.out)) hb); have n1_ := Aside0.mk (hbox); have n2_ := Aside0.mk ((by rw [hg]; exact (below_size (by repeat (first | (with_reducible first | exact HB.out | apply below_alloc | apply pw_below_drewN | apply below_drew1) | exact HB.out))) : w.heap.size ≤ gb140)); have n3_ := Aside0.mk ((by rw [hg]; exact (below_size (by repeat (first | (with_reducible first | exact HB.out | apply below_alloc | apply pw_below_drewN | apply below_drew1) | exact HB.out))) : w.heap.size ≤ gb140)); clear HB; have HB := n0_; have BK140 := n1_; have GW140 := n2_; have GE140 := n3_; clear n0_ n1_ n2_ n3_; clear hb hbox hg) | ((with_reducible refine gate_dst (N := 3) rfl ?_); refine box_event ?hg (N := 3) ?hd (cs := #[.bool a1_0, .string a1_1]) (t := 55) ?hr ?_; (case hd => rfl); (case hg => rfl); (case hr => first | (go_simp; done) | (go_simp; rfl)); intro gb141 hg w7 hbox hb; have n0_ := Aside0.mk (blk_below (g := gb140) (o := .cells #[.bool a0_0, .string a0_1] 55 (0, 0)) (by (with_reducible repeat (first | refine blk_drewN ?_ _ | refine blk_drew ?_ | refine blk_alloc ?_ _)); exact BK140.out) hb); have n1_ := Aside0.mk (below_step (by repeat (first | (with_reducible first | exact HB.out | apply below_alloc | apply pw_below_drewN | apply below_drew1 | refine below_set ?_ GE140.out) | exact HB.out)) hb); have n2_ := Aside0.mk (hbox); have n3_ := Aside0.mk ((by rw [hg]; exact (below_size (by repeat (first | (with_reducible first | exact HB.out | apply below_alloc | apply pw_below_drewN | apply below_drew1 | refine below_set ?_ GE140.out) | exact HB.out))) : w.heap.size ≤ gb141)); have n4_ := Aside0.mk ((by rw [hg]; exact (below_size (by repeat (first | (with_reducible first | exact HB.out | apply below_alloc | apply pw_below_drewN | apply below_drew1 | refine below_set ?_ GE140.out) | exact HB.out))) : w.heap.size ≤ gb141)); have n5_ := Aside0.mk ((by rw [hg]; exact Nat.ne_of_lt (blk_lt (g := gb140) (o := .cells #[.bool a0_0, .string a0_1] 55 (0, 0)) (by (with_reducible repeat (first | refine blk_drewN ?_ _ | refine blk_drew ?_ | refine blk_alloc ?_ _)); exact BK140.out)) : gb140 ≠ gb141)); have n6_ := Aside0.mk ((by rw [hg]; exact Nat.ne_of_gt (blk_lt (g := gb140) (o := .cells #[.bool a0_0, .string a0_1] 55 (0, 0)) (by (with_reducible repeat (first | refine blk_drewN ?_ _ | refine blk_drew ?_ | refine blk_alloc ?_ _)); exact BK140.out)) : gb141 ≠ gb140)); clear BK140; clear HB; have BK140 := n0_; have HB := n1_; have BK141 := n2_; have GW141 := n3_; have GE141 := n4_; have NB140_141 := n5_; have NB141_140 := n6_; clear n0_ n1_ n2_ n3_ n4_ n5_ n6_; clear hb hbox hg))
 have n0_ := Aside0.mk (blk_drew BK140.out)
 have n1_ := Aside0.mk (blk_drew BK141.out)
 have n2_ := Aside0.mk (below_drew1 HB.out)
 clear BK140
 clear BK141
 clear HB
 have BK140 := n0_
 have BK141 := n1_
 have HB := n2_
 clear n0_ n1_ n2_
 refine start_ (n := 6) (S := fun w' => w'.cell? ⟨gb140, 0, none⟩ = some (.bool a0_0) ∧ w'.cell? ⟨gb140, 1, none⟩ = some (.string a0_1) ∧ w'.cell? ⟨gb141, 0, none⟩ = some (.bool a1_0) ∧ w'.cell? ⟨gb141, 1, none⟩ = some (.string a1_1)) (ds := [4, 5]) #[false, false, false, false, false, false] (by kernel_rfl) rfl rfl ⟨(blk_cell BK140.out 0).trans rfl, (blk_cell BK140.out 1).trans rfl, (blk_cell BK141.out 0).trans rfl, (blk_cell BK141.out 1).trans rfl⟩ (fun hHeld => ?_)
 generalize w7.drew = w8 at BK140 BK141 HB hHeld ⊢
 refine take_ (i := 0) (N := some 5) (v := ?_) (a' := ?_) #[true, false, false, false, false, false] rfl rfl (by kernel_rfl) (fun _ _ _ h => h) (Or.inl ⟨by rfl, ?_⟩) hHeld ?_ ?_
 rotate_left
 · rintro w' ⟨s0, s1, s2, s3⟩
   go_simp
   with_reducible rfl
 rotate_left
 · simp only [Act.put, List.setIfInBounds_toArray, List.set_cons_zero, List.set_cons_succ, i64_w, i32_w]
   rfl
 refine take_ (i := 2) (N := some 7) (v := ?_) (a' := ?_) #[true, false, true, false, false, false] rfl rfl (by kernel_rfl) (fun _ _ _ h => h) (Or.inl ⟨by rfl, ?_⟩) hHeld ?_ ?_
 rotate_left
 · rintro w' ⟨s0, s1, s2, s3⟩
   go_simp
   with_reducible rfl
 rotate_left
 · simp only [Act.put, List.setIfInBounds_toArray, List.set_cons_zero, List.set_cons_succ, i64_w, i32_w]
   rfl
 refine one_ (i := 1) (N := some 6) #[true, true, true, false, false, false] rfl rfl (by kernel_rfl) (by decide) (fun K hK => ?_)
 refine goes_ Tryz.func35 (by kernel_rfl) rfl #[.agg #[.bool a0_0, .string a0_1]] (by rfl) rfl rfl (by (try simp only [List.map_toArray, List.map_cons, List.map_nil]); first | done | rfl | (simp only [List.length_drop, List.length_take]; rfl)) ?_
 with_reducible refine (spec_numTidy.calls k a0_0 a0_1 t142 t143 _ A3.out).mono ?_
 rintro e w9 ⟨rfl, hb⟩
 refine ⟨_, rfl, ?_⟩
 have n0_ := Aside0.mk (blk_below (g := gb140) (o := .cells #[.bool a0_0, .string a0_1] 55 (0, 0)) (by (with_reducible repeat (first | refine blk_drewN ?_ _ | refine blk_drew ?_ | refine blk_alloc ?_ _)); exact BK140.out) hb)
 have n1_ := Aside0.mk (blk_below (g := gb141) (o := .cells #[.bool a1_0, .string a1_1] 55 (0, 0)) (by (with_reducible repeat (first | refine blk_drewN ?_ _ | refine blk_drew ?_ | refine blk_alloc ?_ _)); exact BK141.out) hb)
 have n2_ := Aside0.mk (below_step (by repeat (first | (with_reducible first | exact HB.out | apply below_alloc | apply pw_below_drewN | apply below_drew1 | refine below_set ?_ GE140.out | refine below_set ?_ GE141.out) | exact HB.out)) hb)
 clear BK140
 clear BK141
 clear HB
 have BK140 := n0_
 have BK141 := n1_
 have HB := n2_
 clear n0_ n1_ n2_
 (try clear hb)
 (try clear hb2)
 (try clear hk)
 (try clear hi)
 refine hK.out _ _ ⟨(blk_cell BK140.out 0).trans rfl, (blk_cell BK140.out 1).trans rfl, (blk_cell BK141.out 0).trans rfl, (blk_cell BK141.out 1).trans rfl⟩ (fun hHeld => ?_)
 clear hK K
 refine norm_ (a' := ?_) ?_ ?_
 rotate_left
 · show Act.put _ (some 6) _ = _
   simp only [Act.put, List.setIfInBounds_toArray, List.set_cons_zero, List.set_cons_succ, i64_w, i32_w]
   rfl
 refine one_ (i := 3) (N := some 8) #[true, true, true, true, false, false] rfl rfl (by kernel_rfl) (by decide) (fun K hK => ?_)
 refine goes_ Tryz.func35 (by kernel_rfl) rfl #[.agg #[.bool a1_0, .string a1_1]] (by rfl) rfl rfl (by (try simp only [List.map_toArray, List.map_cons, List.map_nil]); first | done | rfl | (simp only [List.length_drop, List.length_take]; rfl)) ?_
 with_reducible refine (spec_numTidy.calls k a1_0 a1_1 t144 t145 _ A4.out).mono ?_
 rintro e w10 ⟨rfl, hb⟩
 refine ⟨_, rfl, ?_⟩
 have n0_ := Aside0.mk (blk_below (g := gb140) (o := .cells #[.bool a0_0, .string a0_1] 55 (0, 0)) (by (with_reducible repeat (first | refine blk_drewN ?_ _ | refine blk_drew ?_ | refine blk_alloc ?_ _)); exact BK140.out) hb)
 have n1_ := Aside0.mk (blk_below (g := gb141) (o := .cells #[.bool a1_0, .string a1_1] 55 (0, 0)) (by (with_reducible repeat (first | refine blk_drewN ?_ _ | refine blk_drew ?_ | refine blk_alloc ?_ _)); exact BK141.out) hb)
 have n2_ := Aside0.mk (below_step (by repeat (first | (with_reducible first | exact HB.out | apply below_alloc | apply pw_below_drewN | apply below_drew1 | refine below_set ?_ GE140.out | refine below_set ?_ GE141.out) | exact HB.out)) hb)
 clear BK140
 clear BK141
 clear HB
 have BK140 := n0_
 have BK141 := n1_
 have HB := n2_
 clear n0_ n1_ n2_
 (try clear hb)
 (try clear hb2)
 (try clear hk)
 (try clear hi)
 refine hK.out _ _ ⟨(blk_cell BK140.out 0).trans rfl, (blk_cell BK140.out 1).trans rfl, (blk_cell BK141.out 0).trans rfl, (blk_cell BK141.out 1).trans rfl⟩ (fun hHeld => ?_)
 clear hK K
 refine norm_ (a' := ?_) ?_ ?_
 rotate_left
 · show Act.put _ (some 8) _ = _
   simp only [Act.put, List.setIfInBounds_toArray, List.set_cons_zero, List.set_cons_succ, i64_w, i32_w]
   rfl
 refine last_ (i := 4) (N := none) #[true, true, true, true, true, false] rfl rfl (by kernel_rfl) (by decide) (fun K hK => ?_)
 have hs11 : w10.cell? ⟨gb140, 0, none⟩ = some (.bool a0_0) := (blk_cell BK140.out 0).trans rfl
 have hfs11 := blk_frozen BK140.out 0
 have hns11_1 := NB141_140.out
 have hms11_1 := NB140_141.out
 have hs12 : w10.cell? ⟨gb140, 1, none⟩ = some (.string a0_1) := (blk_cell BK140.out 1).trans rfl
 have hfs12 := blk_frozen BK140.out 1
 have hns12_1 := NB141_140.out
 have hms12_1 := NB140_141.out
 refine skip_ (w1 := ?_) (by rfl) rfl ?_ ?_
 rotate_left
 · go_simp
   rfl
 refine hK.out _ _ ?_
 clear hK K
 refine last_ (i := 5) (N := none) #[true, true, true, true, true, true] rfl rfl (by kernel_rfl) (by decide) (fun K hK => ?_)
 have hs13 : w10.cell? ⟨gb141, 0, none⟩ = some (.bool a1_0) := (blk_cell BK141.out 0).trans rfl
 have hfs13 := blk_frozen BK141.out 0
 have hns13_0 := NB140_141.out
 have hms13_0 := NB141_140.out
 have hs14 : w10.cell? ⟨gb141, 1, none⟩ = some (.string a1_1) := (blk_cell BK141.out 1).trans rfl
 have hfs14 := blk_frozen BK141.out 1
 have hns14_0 := NB140_141.out
 have hms14_0 := NB141_140.out
 refine skip_ (w1 := ?_) (by rfl) rfl ?_ ?_
 rotate_left
 · go_simp
   rfl
 refine hK.out _ _ ?_
 clear hK K
 refine done_ (by kernel_rfl) ?_
 go_upto_block 0 with (fail)
 go_cut [] (fun wc => ∃ (kq : Nat) (x141000_4 : Bool) (x141001_4 : ByteArray) (x142000_4 : Bool) (x142001_4 : ByteArray), Aside0 (spec_intOrder.j2 kq x141000_4 x141001_4 x142000_4 x142001_4 = some r) ∧ Aside0 (kq ≤ k) ∧ Aside0 (wc.heap[gb140]? = some (.cells #[.bool x141000_4, .string x141001_4] 55 (0, 0))) ∧ Aside0 (wc.heap[gb141]? = some (.cells #[.bool x142000_4, .string x142001_4] 55 (0, 0))) ∧ Aside0 (Below w.heap.size w wc))
 case first =>
  have H := HC5.out
  clear HC5
  have HC15 := Aside0.mk H
  clear H
  go_upto_region 2 with (fail)
  go_cut [9] (fun v9 wc => ∃ (kq : Nat) (x9_14 : Bool), v9 = .bool x9_14 ∧ Aside0 (spec_intOrder.j0 kq x9_14 t142 t143 t144 t145 = some r) ∧ Aside0 (kq ≤ k) ∧ Aside0 (wc.heap[gb140]? = some (.cells #[.bool t142, .string t143] 55 (0, 0))) ∧ Aside0 (wc.heap[gb141]? = some (.cells #[.bool t144, .string t145] 55 (0, 0))) ∧ Aside0 (Below w.heap.size w wc))
  case first =>
   have H := HC15.out
   clear HC15
   by_cases c16 : t142 = true
   · subst c16
     have H1 : (spec_intOrder.j0 k (!t144) true t143 t144 t145) = some r := by rw [if_pos rfl] at H; exact H
     clear H
     have H := H1
     clear H1
     have H' := Aside0.mk H
     clear H
     have hnb17 := NB140_141.out
     have hnc17 := NB141_140.out
     have hcz18_0 : w10.cell? ⟨gb140, 0, none⟩ = some (.bool a0_0) := (blk_cell BK140.out 0).trans rfl
     have hcz18_1 : w10.cell? ⟨gb140, 1, none⟩ = some (.string a0_1) := (blk_cell BK140.out 1).trans rfl
     have hfz18_0 := blk_frozen BK140.out 0
     have hfz18_1 := blk_frozen BK140.out 1
     have hcz19_0 : w10.cell? ⟨gb141, 0, none⟩ = some (.bool a1_0) := (blk_cell BK141.out 0).trans rfl
     have hcz19_1 : w10.cell? ⟨gb141, 1, none⟩ = some (.string a1_1) := (blk_cell BK141.out 1).trans rfl
     have hfz19_0 := blk_frozen BK141.out 0
     have hfz19_1 := blk_frozen BK141.out 1
     go_wp2
     go_meet
     case rel => exact ⟨_, (!t144), (by first | rfl | (simp; done) | (simp [*]; done) | (simp [bne_nil_]; done)), H', ⟨by first | omega | exact Nat.le_refl _⟩, ⟨by (with_reducible repeat (first | refine blk_drewN ?_ _ | refine blk_drew ?_ | refine blk_alloc ?_ _)); refine blk_far ?_ NB140_141.out _; (with_reducible repeat (first | refine blk_drewN ?_ _ | refine blk_drew ?_ | refine blk_alloc ?_ _)); refine blk_far ?_ NB140_141.out _; (with_reducible repeat (first | refine blk_drewN ?_ _ | refine blk_drew ?_ | refine blk_alloc ?_ _)); refine blk_put (cs := #[.bool true, .string a0_1]) ?_ 1 _ rfl; (with_reducible repeat (first | refine blk_drewN ?_ _ | refine blk_drew ?_ | refine blk_alloc ?_ _)); refine blk_put (cs := #[.bool a0_0, .string a0_1]) ?_ 0 _ rfl; (with_reducible repeat (first | refine blk_drewN ?_ _ | refine blk_drew ?_ | refine blk_alloc ?_ _)); exact BK140.out⟩, ⟨by (with_reducible repeat (first | refine blk_drewN ?_ _ | refine blk_drew ?_ | refine blk_alloc ?_ _)); refine blk_put (cs := #[.bool t144, .string a1_1]) ?_ 1 _ rfl; (with_reducible repeat (first | refine blk_drewN ?_ _ | refine blk_drew ?_ | refine blk_alloc ?_ _)); refine blk_put (cs := #[.bool a1_0, .string a1_1]) ?_ 0 _ rfl; (with_reducible repeat (first | refine blk_drewN ?_ _ | refine blk_drew ?_ | refine blk_alloc ?_ _)); refine blk_far ?_ NB141_140.out _; (with_reducible repeat (first | refine blk_drewN ?_ _ | refine blk_drew ?_ | refine blk_alloc ?_ _)); refine blk_far ?_ NB141_140.out _; (with_reducible repeat (first | refine blk_drewN ?_ _ | refine blk_drew ?_ | refine blk_alloc ?_ _)); exact BK141.out⟩, ⟨by repeat (first | (with_reducible first | exact HB.out | apply below_alloc | apply pw_below_drewN | apply below_drew1 | refine below_set ?_ GE140.out | refine below_set ?_ GE141.out) | exact HB.out)⟩⟩
   · replace c16 := Bool.eq_false_iff.mpr c16
     subst c16
     have H1 : (spec_intOrder.j0 k false false t143 t144 t145) = some r := by rw [if_neg (show ¬ (false = true) by decide)] at H; exact H
     clear H
     have H := H1
     clear H1
     have H' := Aside0.mk H
     clear H
     have hnb20 := NB140_141.out
     have hnc20 := NB141_140.out
     have hcz21_0 : w10.cell? ⟨gb140, 0, none⟩ = some (.bool a0_0) := (blk_cell BK140.out 0).trans rfl
     have hcz21_1 : w10.cell? ⟨gb140, 1, none⟩ = some (.string a0_1) := (blk_cell BK140.out 1).trans rfl
     have hfz21_0 := blk_frozen BK140.out 0
     have hfz21_1 := blk_frozen BK140.out 1
     go_wp2
     go_meet
     case rel => exact ⟨_, (false), (by first | rfl | (simp; done) | (simp [*]; done) | (simp [bne_nil_]; done)), H', ⟨by first | omega | exact Nat.le_refl _⟩, ⟨by (with_reducible repeat (first | refine blk_drewN ?_ _ | refine blk_drew ?_ | refine blk_alloc ?_ _)); refine blk_far ?_ NB140_141.out _; (with_reducible repeat (first | refine blk_drewN ?_ _ | refine blk_drew ?_ | refine blk_alloc ?_ _)); refine blk_far ?_ NB140_141.out _; (with_reducible repeat (first | refine blk_drewN ?_ _ | refine blk_drew ?_ | refine blk_alloc ?_ _)); refine blk_put (cs := #[.bool false, .string a0_1]) ?_ 1 _ rfl; (with_reducible repeat (first | refine blk_drewN ?_ _ | refine blk_drew ?_ | refine blk_alloc ?_ _)); refine blk_put (cs := #[.bool a0_0, .string a0_1]) ?_ 0 _ rfl; (with_reducible repeat (first | refine blk_drewN ?_ _ | refine blk_drew ?_ | refine blk_alloc ?_ _)); exact BK140.out⟩, ⟨by (with_reducible repeat (first | refine blk_drewN ?_ _ | refine blk_drew ?_ | refine blk_alloc ?_ _)); refine blk_put (cs := #[.bool t144, .string a1_1]) ?_ 1 _ rfl; (with_reducible repeat (first | refine blk_drewN ?_ _ | refine blk_drew ?_ | refine blk_alloc ?_ _)); refine blk_put (cs := #[.bool a1_0, .string a1_1]) ?_ 0 _ rfl; (with_reducible repeat (first | refine blk_drewN ?_ _ | refine blk_drew ?_ | refine blk_alloc ?_ _)); refine blk_far ?_ NB141_140.out _; (with_reducible repeat (first | refine blk_drewN ?_ _ | refine blk_drew ?_ | refine blk_alloc ?_ _)); refine blk_far ?_ NB141_140.out _; (with_reducible repeat (first | refine blk_drewN ?_ _ | refine blk_drew ?_ | refine blk_alloc ?_ _)); exact BK141.out⟩, ⟨by repeat (first | (with_reducible first | exact HB.out | apply below_alloc | apply pw_below_drewN | apply below_drew1 | refine below_set ?_ GE140.out | refine below_set ?_ GE141.out) | exact HB.out)⟩⟩
  case rest =>
   clear HC15
   try clear c1
   try clear c2
   try clear p2
   try clear c3
   try clear c16
   try clear c17
   try clear c20
   try clear hcz18_0
   try clear hcz18_1
   try clear hcz19_0
   try clear hcz19_1
   try clear hcz21_0
   try clear hcz21_1
   try clear hfz18_0
   try clear hfz18_1
   try clear hfz19_0
   try clear hfz19_1
   try clear hfz21_0
   try clear hfz21_1
   obtain ⟨kq, x9_14, rfl, HA, HJ14, BK140, BK141, HB⟩ := hcut
   cases kq with
   | zero => exact absurd HA.out (by simp [spec_intOrder.j0])
   | succ kj14 =>
    have H := HA.out
    clear HA
    simp only [spec_intOrder.j0] at H
    by_cases c22 : x9_14 = true
    · subst c22
      have H1 : (some (-1)) = some r := by rw [if_pos rfl] at H; exact H
      clear H
      have H := H1
      clear H1
      obtain rfl := Option.some.inj H
      go_wp2
      go_ret
      exact ⟨by first | rfl | (simp [errW_none, errW_some] <;> rfl) | (simp [*, errW_none, errW_some] <;> rfl) | (simp [bne_nil_]; done), by repeat (first | (with_reducible first | exact HB.out | apply below_alloc | apply pw_below_drewN | apply below_drew1 | refine below_set ?_ GE140.out | refine below_set ?_ GE141.out) | exact HB.out)⟩
    · replace c22 := Bool.eq_false_iff.mpr c22
      subst c22
      have H1 : (if t142 = true then (spec_intOrder.j1 kj14 false t142 t143 t144 t145) else (spec_intOrder.j1 kj14 t144 t142 t143 t144 t145)) = some r := by rw [if_neg (show ¬ (false = true) by decide)] at H; exact H
      clear H
      have H := H1
      clear H1
      have HC23 := Aside0.mk H
      clear H
      go_upto_region 4 with (fail)
      go_cut [17] (fun v17 wc => ∃ (kq : Nat) (x17_22 : Bool), v17 = .bool x17_22 ∧ Aside0 (spec_intOrder.j1 kq x17_22 t142 t143 t144 t145 = some r) ∧ Aside0 (kq ≤ kj14) ∧ Aside0 (wc.heap[gb140]? = some (.cells #[.bool t142, .string t143] 55 (0, 0))) ∧ Aside0 (wc.heap[gb141]? = some (.cells #[.bool t144, .string t145] 55 (0, 0))) ∧ Aside0 (Below w.heap.size w wc))
      case first =>
       have H := HC23.out
       clear HC23
       by_cases c24 : t142 = true
       · subst c24
         have H1 : (spec_intOrder.j1 kj14 false true t143 t144 t145) = some r := by rw [if_pos rfl] at H; exact H
         clear H
         have H := H1
         clear H1
         have H' := Aside0.mk H
         clear H
         have hnb25 := NB140_141.out
         have hnc25 := NB141_140.out
         have hcz26_0 : wc.cell? ⟨gb140, 0, none⟩ = some (.bool true) := (blk_cell BK140.out 0).trans rfl
         have hcz26_1 : wc.cell? ⟨gb140, 1, none⟩ = some (.string t143) := (blk_cell BK140.out 1).trans rfl
         have hfz26_0 := blk_frozen BK140.out 0
         have hfz26_1 := blk_frozen BK140.out 1
         go_wp2
         go_meet
         case rel => exact ⟨_, (false), (by first | rfl | (simp; done) | (simp [*]; done) | (simp [bne_nil_]; done)), H', ⟨by have := HJ14.out; first | omega | exact Nat.le_refl _⟩, ⟨by (with_reducible repeat (first | refine blk_drewN ?_ _ | refine blk_drew ?_ | refine blk_alloc ?_ _)); exact BK140.out⟩, ⟨by (with_reducible repeat (first | refine blk_drewN ?_ _ | refine blk_drew ?_ | refine blk_alloc ?_ _)); exact BK141.out⟩, ⟨by repeat (first | (with_reducible first | exact HB.out | apply below_alloc | apply pw_below_drewN | apply below_drew1 | refine below_set ?_ GE140.out | refine below_set ?_ GE141.out) | exact HB.out)⟩⟩
       · replace c24 := Bool.eq_false_iff.mpr c24
         subst c24
         have H1 : (spec_intOrder.j1 kj14 t144 false t143 t144 t145) = some r := by rw [if_neg (show ¬ (false = true) by decide)] at H; exact H
         clear H
         have H := H1
         clear H1
         have H' := Aside0.mk H
         clear H
         have hnb27 := NB140_141.out
         have hnc27 := NB141_140.out
         have hcz28_0 : wc.cell? ⟨gb140, 0, none⟩ = some (.bool false) := (blk_cell BK140.out 0).trans rfl
         have hcz28_1 : wc.cell? ⟨gb140, 1, none⟩ = some (.string t143) := (blk_cell BK140.out 1).trans rfl
         have hfz28_0 := blk_frozen BK140.out 0
         have hfz28_1 := blk_frozen BK140.out 1
         have hcz29_0 : wc.cell? ⟨gb141, 0, none⟩ = some (.bool t144) := (blk_cell BK141.out 0).trans rfl
         have hcz29_1 : wc.cell? ⟨gb141, 1, none⟩ = some (.string t145) := (blk_cell BK141.out 1).trans rfl
         have hfz29_0 := blk_frozen BK141.out 0
         have hfz29_1 := blk_frozen BK141.out 1
         go_wp2
         go_meet
         case rel => exact ⟨_, (t144), (by first | rfl | (simp; done) | (simp [*]; done) | (simp [bne_nil_]; done)), H', ⟨by have := HJ14.out; first | omega | exact Nat.le_refl _⟩, ⟨by (with_reducible repeat (first | refine blk_drewN ?_ _ | refine blk_drew ?_ | refine blk_alloc ?_ _)); exact BK140.out⟩, ⟨by (with_reducible repeat (first | refine blk_drewN ?_ _ | refine blk_drew ?_ | refine blk_alloc ?_ _)); exact BK141.out⟩, ⟨by repeat (first | (with_reducible first | exact HB.out | apply below_alloc | apply pw_below_drewN | apply below_drew1 | refine below_set ?_ GE140.out | refine below_set ?_ GE141.out) | exact HB.out)⟩⟩
      case rest =>
       clear HC23
       try clear c1
       try clear c2
       try clear p2
       try clear c3
       try clear c16
       try clear c17
       try clear c20
       try clear c22
       try clear c24
       try clear c25
       try clear c27
       try clear hcz18_0
       try clear hcz18_1
       try clear hcz19_0
       try clear hcz19_1
       try clear hcz21_0
       try clear hcz21_1
       try clear hcz26_0
       try clear hcz26_1
       try clear hcz28_0
       try clear hcz28_1
       try clear hcz29_0
       try clear hcz29_1
       try clear hfz18_0
       try clear hfz18_1
       try clear hfz19_0
       try clear hfz19_1
       try clear hfz21_0
       try clear hfz21_1
       try clear hfz26_0
       try clear hfz26_1
       try clear hfz28_0
       try clear hfz28_1
       try clear hfz29_0
       try clear hfz29_1
       try clear p2
       obtain ⟨kq, x17_22, rfl, HA, HJ22, BK140, BK141, HB⟩ := hcut
       cases kq with
       | zero => exact absurd HA.out (by simp [spec_intOrder.j1])
       | succ kj22 =>
        have H := HA.out
        clear HA
        simp only [spec_intOrder.j1] at H
        by_cases c30 : x17_22 = true
        · subst c30
          have H1 : (some 1) = some r := by rw [if_pos rfl] at H; exact H
          clear H
          have H := H1
          clear H1
          obtain rfl := Option.some.inj H
          go_wp2
          go_ret
          exact ⟨by first | rfl | (simp [errW_none, errW_some] <;> rfl) | (simp [*, errW_none, errW_some] <;> rfl) | (simp [bne_nil_]; done), by repeat (first | (with_reducible first | exact HB.out | apply below_alloc | apply pw_below_drewN | apply below_drew1 | refine below_set ?_ GE140.out | refine below_set ?_ GE141.out) | exact HB.out)⟩
        · replace c30 := Bool.eq_false_iff.mpr c30
          subst c30
          have H1 : (if t142 = true then (spec_intOrder.j2 kj22 t144 t145 t142 t143) else (spec_intOrder.j2 kj22 t142 t143 t144 t145)) = some r := by rw [if_neg (show ¬ (false = true) by decide)] at H; exact H
          clear H
          have H := H1
          clear H1
          by_cases c31 : t142 = true
          · subst c31
            have H1 : (spec_intOrder.j2 kj22 t144 t145 true t143) = some r := by rw [if_pos rfl] at H; exact H
            clear H
            have H := H1
            clear H1
            have H' := Aside0.mk H
            clear H
            have hnb32 := NB140_141.out
            have hnc32 := NB141_140.out
            have hcz33_0 : wc.cell? ⟨gb140, 0, none⟩ = some (.bool true) := (blk_cell BK140.out 0).trans rfl
            have hcz33_1 : wc.cell? ⟨gb140, 1, none⟩ = some (.string t143) := (blk_cell BK140.out 1).trans rfl
            have hfz33_0 := blk_frozen BK140.out 0
            have hfz33_1 := blk_frozen BK140.out 1
            have hcz34_0 : wc.cell? ⟨gb141, 0, none⟩ = some (.bool t144) := (blk_cell BK141.out 0).trans rfl
            have hcz34_1 : wc.cell? ⟨gb141, 1, none⟩ = some (.string t145) := (blk_cell BK141.out 1).trans rfl
            have hfz34_0 := blk_frozen BK141.out 0
            have hfz34_1 := blk_frozen BK141.out 1
            go_wp2
            go_meet
            case rel => exact ⟨_, (t144), (t145), (true), (t143), H', ⟨by have := HJ14.out; have := HJ22.out; first | omega | exact Nat.le_refl _⟩, ⟨by (with_reducible repeat (first | refine blk_drewN ?_ _ | refine blk_drew ?_ | refine blk_alloc ?_ _)); refine blk_far ?_ NB140_141.out _; (with_reducible repeat (first | refine blk_drewN ?_ _ | refine blk_drew ?_ | refine blk_alloc ?_ _)); refine blk_far ?_ NB140_141.out _; (with_reducible repeat (first | refine blk_drewN ?_ _ | refine blk_drew ?_ | refine blk_alloc ?_ _)); refine blk_put (cs := #[.bool t144, .string t143]) ?_ 1 _ rfl; (with_reducible repeat (first | refine blk_drewN ?_ _ | refine blk_drew ?_ | refine blk_alloc ?_ _)); refine blk_put (cs := #[.bool true, .string t143]) ?_ 0 _ rfl; (with_reducible repeat (first | refine blk_drewN ?_ _ | refine blk_drew ?_ | refine blk_alloc ?_ _)); exact BK140.out⟩, ⟨by (with_reducible repeat (first | refine blk_drewN ?_ _ | refine blk_drew ?_ | refine blk_alloc ?_ _)); refine blk_put (cs := #[.bool true, .string t145]) ?_ 1 _ rfl; (with_reducible repeat (first | refine blk_drewN ?_ _ | refine blk_drew ?_ | refine blk_alloc ?_ _)); refine blk_put (cs := #[.bool t144, .string t145]) ?_ 0 _ rfl; (with_reducible repeat (first | refine blk_drewN ?_ _ | refine blk_drew ?_ | refine blk_alloc ?_ _)); refine blk_far ?_ NB141_140.out _; (with_reducible repeat (first | refine blk_drewN ?_ _ | refine blk_drew ?_ | refine blk_alloc ?_ _)); refine blk_far ?_ NB141_140.out _; (with_reducible repeat (first | refine blk_drewN ?_ _ | refine blk_drew ?_ | refine blk_alloc ?_ _)); exact BK141.out⟩, ⟨by repeat (first | (with_reducible first | exact HB.out | apply below_alloc | apply pw_below_drewN | apply below_drew1 | refine below_set ?_ GE140.out | refine below_set ?_ GE141.out) | exact HB.out)⟩⟩
          · replace c31 := Bool.eq_false_iff.mpr c31
            subst c31
            have H1 : (spec_intOrder.j2 kj22 false t143 t144 t145) = some r := by rw [if_neg (show ¬ (false = true) by decide)] at H; exact H
            clear H
            have H := H1
            clear H1
            have H' := Aside0.mk H
            clear H
            have hnb35 := NB140_141.out
            have hnc35 := NB141_140.out
            have hcz36_0 : wc.cell? ⟨gb140, 0, none⟩ = some (.bool false) := (blk_cell BK140.out 0).trans rfl
            have hcz36_1 : wc.cell? ⟨gb140, 1, none⟩ = some (.string t143) := (blk_cell BK140.out 1).trans rfl
            have hfz36_0 := blk_frozen BK140.out 0
            have hfz36_1 := blk_frozen BK140.out 1
            go_wp2
            go_meet
            case rel => exact ⟨_, (false), (t143), (t144), (t145), H', ⟨by have := HJ14.out; have := HJ22.out; first | omega | exact Nat.le_refl _⟩, ⟨by (with_reducible repeat (first | refine blk_drewN ?_ _ | refine blk_drew ?_ | refine blk_alloc ?_ _)); exact BK140.out⟩, ⟨by (with_reducible repeat (first | refine blk_drewN ?_ _ | refine blk_drew ?_ | refine blk_alloc ?_ _)); exact BK141.out⟩, ⟨by repeat (first | (with_reducible first | exact HB.out | apply below_alloc | apply pw_below_drewN | apply below_drew1 | refine below_set ?_ GE140.out | refine below_set ?_ GE141.out) | exact HB.out)⟩⟩
 case rest =>
  clear HC5
  try clear c1
  try clear c2
  try clear p2
  try clear c3
  try clear c16
  try clear c17
  try clear c20
  try clear c22
  try clear c24
  try clear c25
  try clear c27
  try clear c30
  try clear c31
  try clear c32
  try clear c35
  try clear hcz18_0
  try clear hcz18_1
  try clear hcz19_0
  try clear hcz19_1
  try clear hcz21_0
  try clear hcz21_1
  try clear hcz26_0
  try clear hcz26_1
  try clear hcz28_0
  try clear hcz28_1
  try clear hcz29_0
  try clear hcz29_1
  try clear hcz33_0
  try clear hcz33_1
  try clear hcz34_0
  try clear hcz34_1
  try clear hcz36_0
  try clear hcz36_1
  try clear hfz18_0
  try clear hfz18_1
  try clear hfz19_0
  try clear hfz19_1
  try clear hfz21_0
  try clear hfz21_1
  try clear hfz26_0
  try clear hfz26_1
  try clear hfz28_0
  try clear hfz28_1
  try clear hfz29_0
  try clear hfz29_1
  try clear hfz33_0
  try clear hfz33_1
  try clear hfz34_0
  try clear hfz34_1
  try clear hfz36_0
  try clear hfz36_1
  try clear p2
  obtain ⟨kq, x141000_4, x141001_4, x142000_4, x142001_4, HA, HJ4, BK140, BK141, HB⟩ := hcut
  cases kq with
  | zero => exact absurd HA.out (by simp [spec_intOrder.j2])
  | succ kj4 =>
   have H := HA.out
   clear HA
   simp only [spec_intOrder.j2] at H
   by_cases c37 : (x141001_4.size : Int) = (x142001_4.size : Int)
   · rw [if_pos c37] at H
     have c37b0 : ((x141001_4.size : Int) == (x142001_4.size : Int)) = true := beq_iff_eq.mpr c37
     have c37b1 : ((x141001_4.size : Int) != (x142001_4.size : Int)) = false := bne_eq_false_iff_eq.mpr c37
     have c37b2 : (x141001_4.size == x142001_4.size) = true := by first | simpa using c37 | (simp at c37 ⊢; omega)
     clear c37
     replace H := Option.bind_eq_some_iff.mp H
     obtain ⟨t146, A380, H⟩ := H
     replace H : (some t146) = some r := H
     have A38 := Aside0.mk A380
     clear A380
     obtain rfl := Option.some.inj H
     have hnb39 := NB140_141.out
     have hnc39 := NB141_140.out
     have hcz40_0 : wc.cell? ⟨gb140, 0, none⟩ = some (.bool x141000_4) := (blk_cell BK140.out 0).trans rfl
     have hcz40_1 : wc.cell? ⟨gb140, 1, none⟩ = some (.string x141001_4) := (blk_cell BK140.out 1).trans rfl
     have hfz40_0 := blk_frozen BK140.out 0
     have hfz40_1 := blk_frozen BK140.out 1
     have hcz41_0 : wc.cell? ⟨gb141, 0, none⟩ = some (.bool x142000_4) := (blk_cell BK141.out 0).trans rfl
     have hcz41_1 : wc.cell? ⟨gb141, 1, none⟩ = some (.string x142001_4) := (blk_cell BK141.out 1).trans rfl
     have hfz41_0 := blk_frozen BK141.out 0
     have hfz41_1 := blk_frozen BK141.out 1
     go_wp2_with (first | ((with_reducible refine gate_callee (f := 49) rfl ?_); refine goesL_ (some 48) rfl rfl Tryz.func49 (by kernel_rfl) rfl #[.string x141001_4, .string x142001_4] rfl (by (try simp only [List.map_toArray, List.map_cons, List.map_nil]); first | done | rfl | (simp only [List.length_drop, List.length_take]; rfl)) ?_; (with_reducible refine (Giv.spec_order.calls x141001_4 x142001_4 t146 _ A38.out).mono ?_); rintro e w' ⟨rfl, ⟨nd, rfl⟩⟩; refine ⟨_, rfl, ?_⟩))
     go_ret
     exact ⟨by first | rfl | (simp [errW_none, errW_some] <;> rfl) | (simp [*, errW_none, errW_some] <;> rfl) | (simp [bne_nil_]; done), by repeat (first | (with_reducible first | exact HB.out | apply below_alloc | apply pw_below_drewN | apply below_drew1 | refine below_set ?_ GE140.out | refine below_set ?_ GE141.out) | exact HB.out)⟩
   · rw [if_neg c37] at H
     have c37b0 : ((x141001_4.size : Int) == (x142001_4.size : Int)) = false := beq_eq_false_iff_ne.mpr c37
     have c37b1 : ((x141001_4.size : Int) != (x142001_4.size : Int)) = true := bne_iff_ne.mpr c37
     have c37b2 : (x141001_4.size == x142001_4.size) = false := by first | simpa using c37 | (simp at c37 ⊢; omega)
     replace H := Option.bind_eq_some_iff.mp H
     obtain ⟨t147, A420, H⟩ := H
     replace H : (some t147) = some r := H
     have A42 := Aside0.mk A420
     clear A420
     obtain rfl := Option.some.inj H
     have hnb43 := NB140_141.out
     have hnc43 := NB141_140.out
     have hcz44_0 : wc.cell? ⟨gb140, 0, none⟩ = some (.bool x141000_4) := (blk_cell BK140.out 0).trans rfl
     have hcz44_1 : wc.cell? ⟨gb140, 1, none⟩ = some (.string x141001_4) := (blk_cell BK140.out 1).trans rfl
     have hfz44_0 := blk_frozen BK140.out 0
     have hfz44_1 := blk_frozen BK140.out 1
     have hcz45_0 : wc.cell? ⟨gb141, 0, none⟩ = some (.bool x142000_4) := (blk_cell BK141.out 0).trans rfl
     have hcz45_1 : wc.cell? ⟨gb141, 1, none⟩ = some (.string x142001_4) := (blk_cell BK141.out 1).trans rfl
     have hfz45_0 := blk_frozen BK141.out 0
     have hfz45_1 := blk_frozen BK141.out 1
     go_wp2_with (first | ((with_reducible refine gate_callee (f := 21) rfl ?_); refine goesL_ (some 43) rfl rfl Tryz.func21 (by kernel_rfl) rfl #[.int .i64 (x141001_4.size : Int), .int .i64 (x142001_4.size : Int)] rfl (by (try simp only [List.map_toArray, List.map_cons, List.map_nil]); first | done | rfl | (simp only [List.length_drop, List.length_take]; rfl)) ?_; (with_reducible refine (spec_orderInts.calls (x141001_4.size : Int) (x142001_4.size : Int) t147 _ A42.out).mono ?_); rintro e w' ⟨rfl, ⟨nd, rfl⟩⟩; refine ⟨_, rfl, ?_⟩))
     go_ret
     exact ⟨by first | rfl | (simp [errW_none, errW_some] <;> rfl) | (simp [*, errW_none, errW_some] <;> rfl) | (simp [bne_nil_]; done), by repeat (first | (with_reducible first | exact HB.out | apply below_alloc | apply pw_below_drewN | apply below_drew1 | refine below_set ?_ GE140.out | refine below_set ?_ GE141.out) | exact HB.out)⟩

/-! ### spec_CompareNumbers: function 29 -/
mutual
def spec_CompareNumbers.l0 : Nat → List (S55) → List (S55) → Int → Option (Int)
 | 0, _, _, _ => none
 | k + 1, x0, x1, x5 => if x5 < (x0.length : Int) then (spec_CompareNumbers.j1 k x0 x1 x5 true) else (spec_CompareNumbers.j1 k x0 x1 x5 (decide (x5 < (x1.length : Int))))
def spec_CompareNumbers.j1 : Nat → List (S55) → List (S55) → Int → Bool → Option (Int)
 | 0, _, _, _, _ => none
 | k + 1, x0, x1, x5, x18 => if x18 = true then (if x5 < (x0.length : Int) then (if 0 ≤ x5 then (spec_CompareNumbers.j2 k x0 x1 x5 ((rd_T55 x0 x5).f0) ((rd_T55 x0 x5).f1) false (⟨#[]⟩ : ByteArray)) else (none)) else (spec_CompareNumbers.j2 k x0 x1 x5 false (⟨#[]⟩ : ByteArray) false (⟨#[]⟩ : ByteArray))) else (some 0)
def spec_CompareNumbers.j2 : Nat → List (S55) → List (S55) → Int → Bool → ByteArray → Bool → ByteArray → Option (Int)
 | 0, _, _, _, _, _, _, _ => none
 | k + 1, x0, x1, x5, x149000, x149001, x150000, x150001 => if x5 < (x1.length : Int) then (if 0 ≤ x5 then ((spec_intOrder.f k x149000 x149001 ((rd_T55 x1 x5).f0) ((rd_T55 x1 x5).f1)).bind fun t152 => (if t152 = 0 then (spec_CompareNumbers.l0 k x0 x1 (wrap64 (x5 + 1))) else (some t152))) else (none)) else ((spec_intOrder.f k x149000 x149001 x150000 x150001).bind fun t153 => (if t153 = 0 then (spec_CompareNumbers.l0 k x0 x1 (wrap64 (x5 + 1))) else (some t153)))
end
def spec_CompareNumbers.f (k : Nat) (l0 : List (S55)) (l1 : List (S55)) : Option (Int) := spec_CompareNumbers.l0 k l0 l1 0
theorem spec_CompareNumbers.mono_l : ∀ k, (∀ y0 y1 y2, LeO (spec_CompareNumbers.l0 k y0 y1 y2) (spec_CompareNumbers.l0 (k + 1) y0 y1 y2)) ∧ (∀ y0 y1 y2 y3, LeO (spec_CompareNumbers.j1 k y0 y1 y2 y3) (spec_CompareNumbers.j1 (k + 1) y0 y1 y2 y3)) ∧ (∀ y0 y1 y2 y3 y4 y5 y6, LeO (spec_CompareNumbers.j2 k y0 y1 y2 y3 y4 y5 y6) (spec_CompareNumbers.j2 (k + 1) y0 y1 y2 y3 y4 y5 y6))
 | 0 => ⟨fun _ _ _ r h => by simp [spec_CompareNumbers.l0] at h, fun _ _ _ _ r h => by simp [spec_CompareNumbers.j1] at h, fun _ _ _ _ _ _ _ r h => by simp [spec_CompareNumbers.j2] at h⟩
 | k + 1 => by
  obtain ⟨ih0, ih1, ih2⟩ := spec_CompareNumbers.mono_l k
  refine ⟨?_, ?_, ?_⟩
  · intro y0 y1 y2
    unfold spec_CompareNumbers.l0
    repeat' first
    | (with_reducible exact ih0 _ _ _)
    | (with_reducible exact ih1 _ _ _ _)
    | (with_reducible exact ih2 _ _ _ _ _ _ _)
    | (with_reducible exact spec_intOrder.mono _ _ _ _ _)
    | (with_reducible exact LeO.refl _)
    | (with_reducible exact LeO.none _)
    | (with_reducible refine LeO.ite ?_ ?_)
    | (with_reducible refine LeO.bind ?_ (fun _ => ?_))
    | exact ih0 _ _ _
    | exact ih1 _ _ _ _
    | exact ih2 _ _ _ _ _ _ _
    | exact spec_intOrder.mono _ _ _ _ _
    | exact LeO.none _
    | refine LeO.ite ?_ ?_
    | refine LeO.bind ?_ (fun _ => ?_)
  · intro y0 y1 y2 y3
    unfold spec_CompareNumbers.j1
    repeat' first
    | (with_reducible exact ih0 _ _ _)
    | (with_reducible exact ih1 _ _ _ _)
    | (with_reducible exact ih2 _ _ _ _ _ _ _)
    | (with_reducible exact spec_intOrder.mono _ _ _ _ _)
    | (with_reducible exact LeO.refl _)
    | (with_reducible exact LeO.none _)
    | (with_reducible refine LeO.ite ?_ ?_)
    | (with_reducible refine LeO.bind ?_ (fun _ => ?_))
    | exact ih0 _ _ _
    | exact ih1 _ _ _ _
    | exact ih2 _ _ _ _ _ _ _
    | exact spec_intOrder.mono _ _ _ _ _
    | exact LeO.none _
    | refine LeO.ite ?_ ?_
    | refine LeO.bind ?_ (fun _ => ?_)
  · intro y0 y1 y2 y3 y4 y5 y6
    unfold spec_CompareNumbers.j2
    repeat' first
    | (with_reducible exact ih0 _ _ _)
    | (with_reducible exact ih1 _ _ _ _)
    | (with_reducible exact ih2 _ _ _ _ _ _ _)
    | (with_reducible exact spec_intOrder.mono _ _ _ _ _)
    | (with_reducible exact LeO.refl _)
    | (with_reducible exact LeO.none _)
    | (with_reducible refine LeO.ite ?_ ?_)
    | (with_reducible refine LeO.bind ?_ (fun _ => ?_))
    | exact ih0 _ _ _
    | exact ih1 _ _ _ _
    | exact ih2 _ _ _ _ _ _ _
    | exact spec_intOrder.mono _ _ _ _ _
    | exact LeO.none _
    | refine LeO.ite ?_ ?_
    | refine LeO.bind ?_ (fun _ => ?_)
theorem spec_CompareNumbers.mono : ∀ a0 a1 k, LeO (spec_CompareNumbers.f k a0 a1) (spec_CompareNumbers.f (k + 1) a0 a1) := by
 intro a0 a1 k
 obtain ⟨ih0, ih1, ih2⟩ := spec_CompareNumbers.mono_l k
 unfold spec_CompareNumbers.f
 repeat' first
  | (with_reducible exact ih0 _ _ _)
  | (with_reducible exact ih1 _ _ _ _)
  | (with_reducible exact ih2 _ _ _ _ _ _ _)
  | (with_reducible exact spec_intOrder.mono _ _ _ _ _)
  | (with_reducible exact LeO.refl _)
  | (with_reducible exact LeO.none _)
  | (with_reducible refine LeO.ite ?_ ?_)
  | (with_reducible refine LeO.bind ?_ (fun _ => ?_))
  | exact ih0 _ _ _
  | exact ih1 _ _ _ _
  | exact ih2 _ _ _ _ _ _ _
  | exact spec_intOrder.mono _ _ _ _ _
  | exact LeO.none _
  | refine LeO.ite ?_ ?_
  | refine LeO.bind ?_ (fun _ => ?_)
set_option maxHeartbeats 8000000 in
set_option maxRecDepth 100000 in
theorem spec_CompareNumbers.calls (k : Nat) (A0 : Option Addr) (c0 : Nat) (l0 : List (S55)) (A1 : Option Addr) (c1 : Nat) (l1 : List (S55)) (r : Int) (w : World) (hr0 : Kd.C k55 w A0 l0.length l0) (hc0 : l0.length ≤ c0) (hr1 : Kd.C k55 w A1 l1.length l1) (hc1 : l1.length ≤ c1) (h : spec_CompareNumbers.f k l0 l1 = some r) :
 Calls Tryz.prog 29 #[.slice A0 l0.length c0, .slice A1 l1.length c1] w fun e w' => e = .returned (.int .i64 r) ∧ Below w.heap.size w w' := by
 have hu55 := Tryz.underlying55
 have HR0 := Aside0.mk hr0
 have HC0 := Aside0.mk hc0
 clear hr0 hc0
 have HR1 := Aside0.mk hr1
 have HC1 := Aside0.mk hc1
 clear hr1 hc1
 have HB := Aside0.mk (Below.refl w.heap.size w)
 have H : (spec_CompareNumbers.l0 k l0 l1 0) = some r := h
 clear h
 have H' := Aside0.mk H
 clear H
 go_enter Tryz.func29, Tryz.ntmps29
 go_wp2
 go_loopg [5] k (fun kq v5 w' => ∃ (x5_1 : Int), v5 = .int .i64 x5_1 ∧ Aside0 (spec_CompareNumbers.l0 kq l0 l1 x5_1 = some r) ∧ Aside0 (kq ≤ k) ∧ Aside0 (Below w.heap.size w w'))
 case atStart => exact ⟨(0), (by first | rfl | (simp; done) | (simp [*]; done) | (simp [bne_nil_]; done)), H', ⟨Nat.le_refl _⟩, ⟨by repeat (first | (with_reducible first | exact HB.out | apply below_alloc | apply pw_below_drewN | apply below_drew1) | exact HB.out)⟩⟩
 case round =>
  clear H'
  try clear c1
  try clear c2
  try clear p2
  obtain ⟨x5_1, rfl, HA, HK1, HB⟩ := hrel
  cases gk with
  | zero => exact absurd HA.out (by simp [spec_CompareNumbers.l0])
  | succ k1 =>
   have H := HA.out
   clear HA
   simp only [spec_CompareNumbers.l0] at H
   have HC3 := Aside0.mk H
   clear H
   go_upto_region 2 with (fail)
   go_cut [18] (fun v18 wc => ∃ (kq : Nat) (x18_2 : Bool), v18 = .bool x18_2 ∧ Aside0 (spec_CompareNumbers.j1 kq l0 l1 x5_1 x18_2 = some r) ∧ Aside0 (kq ≤ k1) ∧ Aside0 (Below w.heap.size w wc))
   case first =>
    have H := HC3.out
    clear HC3
    by_cases c4 : x5_1 < (l0.length : Int)
    · rw [if_pos c4] at H
      have c4b0 : decide (x5_1 < (l0.length : Int)) = true := decide_eq_true c4
      clear c4
      (first | rw [c4b0] | (simp only [i64_w, i32_w]; rw [c4b0]) | skip)
      have H' := Aside0.mk H
      clear H
      go_wp2
      go_meet
      case rel => exact ⟨_, (true), (by first | rfl | (simp; done) | (simp [*]; done) | (simp [bne_nil_]; done)), H', ⟨by have := HK1.out; first | omega | exact Nat.le_refl _⟩, ⟨by repeat (first | (with_reducible first | exact HB.out | apply below_alloc | apply pw_below_drewN | apply below_drew1) | exact HB.out)⟩⟩
    · rw [if_neg c4] at H
      have c4b0 : decide (x5_1 < (l0.length : Int)) = false := decide_eq_false c4
      clear c4
      (first | rw [c4b0] | (simp only [i64_w, i32_w]; rw [c4b0]) | skip)
      have H' := Aside0.mk H
      clear H
      go_wp2
      go_meet
      case rel => exact ⟨_, (decide (x5_1 < (l1.length : Int))), (by first | rfl | (simp; done) | (simp [*]; done) | (simp [bne_nil_]; done)), H', ⟨by have := HK1.out; first | omega | exact Nat.le_refl _⟩, ⟨by repeat (first | (with_reducible first | exact HB.out | apply below_alloc | apply pw_below_drewN | apply below_drew1) | exact HB.out)⟩⟩
   case rest =>
    clear HC3
    try clear c1
    try clear c2
    try clear p2
    try clear c4
    try clear c4b0
    try clear p2
    obtain ⟨kq, x18_2, rfl, HA, HJ2, HB⟩ := hcut
    cases kq with
    | zero => exact absurd HA.out (by simp [spec_CompareNumbers.j1])
    | succ kj2 =>
     have H := HA.out
     clear HA
     simp only [spec_CompareNumbers.j1] at H
     by_cases c5 : x18_2 = true
     · subst c5
       have H1 : (if x5_1 < (l0.length : Int) then (if 0 ≤ x5_1 then (spec_CompareNumbers.j2 kj2 l0 l1 x5_1 ((rd_T55 l0 x5_1).f0) ((rd_T55 l0 x5_1).f1) false (⟨#[]⟩ : ByteArray)) else (none)) else (spec_CompareNumbers.j2 kj2 l0 l1 x5_1 false (⟨#[]⟩ : ByteArray) false (⟨#[]⟩ : ByteArray))) = some r := by rw [if_pos rfl] at H; exact H
       clear H
       have H := H1
       clear H1
       have HC6 := Aside0.mk H
       clear H
       go_upto_if 24 with (first | ((with_reducible refine gate_dst (N := 6) rfl ?_); (try (refine gate_guard (by rfl) ?_; dsimp only)); refine box_event ?hg (N := 6) ?hd (cs := #[.bool false, .string (⟨#[]⟩ : ByteArray)]) (t := 55) ?hr ?_; (case hd => rfl); (case hg => rfl); (case hr => first | (go_simp; done) | (go_simp; rfl)); intro gb148 hg w7 hbox hb; have n0_ := Aside0.mk (below_step (by repeat (first | (with_reducible first | exact HB.out | apply below_alloc | apply pw_below_drewN | apply below_drew1) | exact HB.out)) hb); have n1_ := Aside0.mk (hbox); have n2_ := Aside0.mk ((by rw [hg]; exact (below_size (by repeat (first | (with_reducible first | exact HB.out | apply below_alloc | apply pw_below_drewN | apply below_drew1) | exact HB.out))) : w.heap.size ≤ gb148)); have n3_ := Aside0.mk ((by rw [hg]; exact (below_size (by repeat (first | (with_reducible first | exact HB.out | apply below_alloc | apply pw_below_drewN | apply below_drew1) | exact HB.out))) : w.heap.size ≤ gb148)); clear HB; have HB := n0_; have BK148 := n1_; have GW148 := n2_; have GE148 := n3_; clear n0_ n1_ n2_ n3_; clear hb hbox hg) | ((with_reducible refine gate_dst (N := 7) rfl ?_); (try (refine gate_guard (by rfl) ?_; dsimp only)); refine box_event ?hg (N := 7) ?hd (cs := #[.bool false, .string (⟨#[]⟩ : ByteArray)]) (t := 55) ?hr ?_; (case hd => rfl); (case hg => rfl); (case hr => first | (go_simp; done) | (go_simp; rfl)); intro gb149 hg w8 hbox hb; have n0_ := Aside0.mk (blk_below (g := gb148) (o := .cells #[.bool false, .string (⟨#[]⟩ : ByteArray)] 55 (0, 0)) (by (with_reducible repeat (first | refine blk_drewN ?_ _ | refine blk_drew ?_ | refine blk_alloc ?_ _)); exact BK148.out) hb); have n1_ := Aside0.mk (below_step (by repeat (first | (with_reducible first | exact HB.out | apply below_alloc | apply pw_below_drewN | apply below_drew1 | refine below_set ?_ GE148.out) | exact HB.out)) hb); have n2_ := Aside0.mk (hbox); have n3_ := Aside0.mk ((by rw [hg]; exact (below_size (by repeat (first | (with_reducible first | exact HB.out | apply below_alloc | apply pw_below_drewN | apply below_drew1 | refine below_set ?_ GE148.out) | exact HB.out))) : w.heap.size ≤ gb149)); have n4_ := Aside0.mk ((by rw [hg]; exact (below_size (by repeat (first | (with_reducible first | exact HB.out | apply below_alloc | apply pw_below_drewN | apply below_drew1 | refine below_set ?_ GE148.out) | exact HB.out))) : w.heap.size ≤ gb149)); have n5_ := Aside0.mk ((by rw [hg]; exact Nat.ne_of_lt (blk_lt (g := gb148) (o := .cells #[.bool false, .string (⟨#[]⟩ : ByteArray)] 55 (0, 0)) (by (with_reducible repeat (first | refine blk_drewN ?_ _ | refine blk_drew ?_ | refine blk_alloc ?_ _)); exact BK148.out)) : gb148 ≠ gb149)); have n6_ := Aside0.mk ((by rw [hg]; exact Nat.ne_of_gt (blk_lt (g := gb148) (o := .cells #[.bool false, .string (⟨#[]⟩ : ByteArray)] 55 (0, 0)) (by (with_reducible repeat (first | refine blk_drewN ?_ _ | refine blk_drew ?_ | refine blk_alloc ?_ _)); exact BK148.out)) : gb149 ≠ gb148)); clear BK148; clear HB; have BK148 := n0_; have HB := n1_; have BK149 := n2_; have GW149 := n3_; have GE149 := n4_; have NB148_149 := n5_; have NB149_148 := n6_; clear n0_ n1_ n2_ n3_ n4_ n5_ n6_; clear hb hbox hg))
       (try simp only [Act.put, List.setIfInBounds_toArray, List.set_cons_zero, List.set_cons_succ])
       go_cut [] (fun wc => ∃ (kq : Nat) (x149000_5 : Bool) (x149001_5 : ByteArray), Aside0 (spec_CompareNumbers.j2 kq l0 l1 x5_1 x149000_5 x149001_5 false (⟨#[]⟩ : ByteArray) = some r) ∧ Aside0 (kq ≤ kj2) ∧ Aside0 (wc.heap[gb148]? = some (.cells #[.bool x149000_5, .string x149001_5] 55 (0, 0))) ∧ Aside0 (wc.heap[gb149]? = some (.cells #[.bool false, .string (⟨#[]⟩ : ByteArray)] 55 (0, 0))) ∧ Aside0 (Below w.heap.size w wc))
       case first =>
        have H := HC6.out
        clear HC6
        by_cases c9 : x5_1 < (l0.length : Int)
        · rw [if_pos c9] at H
          have c9b0 : decide (x5_1 < (l0.length : Int)) = true := decide_eq_true c9
          clear c9
          (first | rw [c9b0] | (simp only [i64_w, i32_w]; rw [c9b0]) | skip)
          by_cases c10 : 0 ≤ x5_1
          · rw [if_pos c10] at H
            have c10b0 : decide (0 ≤ x5_1) = true := decide_eq_true c10
            clear c10
            have H' := Aside0.mk H
            clear H
            have p150 : 0 ≤ (x5_1 : Int) := of_decide_eq_true (by first | (with_reducible assumption) | assumption)
            have q150 : x5_1 < (l0.length : Int) := of_decide_eq_true (by first | (with_reducible assumption) | assumption)
            obtain ⟨ad150, e150, hx150_0, hx150_1⟩ := at_T55 HR0.out x5_1 p150 q150
            cases e150
            replace hx150_0 := (HB.out.cell (World.block_lt_of_cell? w _ hx150_0)).trans hx150_0
            replace hx150_1 := (HB.out.cell (World.block_lt_of_cell? w _ hx150_1)).trans hx150_1
            replace p150 := eq_true p150
            replace q150 := eq_true q150
            have hnb11 := NB148_149.out
            have hnc11 := NB149_148.out
            have hcz12_0 : w8.cell? ⟨gb148, 0, none⟩ = some (.bool false) := (blk_cell BK148.out 0).trans rfl
            have hcz12_1 : w8.cell? ⟨gb148, 1, none⟩ = some (.string (⟨#[]⟩ : ByteArray)) := (blk_cell BK148.out 1).trans rfl
            have hfz12_0 := blk_frozen BK148.out 0
            have hfz12_1 := blk_frozen BK148.out 1
            go_wp2
            go_meet
            case rel => exact ⟨_, ((rd_T55 l0 x5_1).f0), ((rd_T55 l0 x5_1).f1), H', ⟨by have := HK1.out; have := HJ2.out; first | omega | exact Nat.le_refl _⟩, ⟨by (with_reducible repeat (first | refine blk_drewN ?_ _ | refine blk_drew ?_ | refine blk_alloc ?_ _)); refine blk_put (cs := #[.bool ((rd_T55 l0 x5_1).f0), .string (⟨#[]⟩ : ByteArray)]) ?_ 1 _ rfl; (with_reducible repeat (first | refine blk_drewN ?_ _ | refine blk_drew ?_ | refine blk_alloc ?_ _)); refine blk_put (cs := #[.bool false, .string (⟨#[]⟩ : ByteArray)]) ?_ 0 _ rfl; (with_reducible repeat (first | refine blk_drewN ?_ _ | refine blk_drew ?_ | refine blk_alloc ?_ _)); exact BK148.out⟩, ⟨by (with_reducible repeat (first | refine blk_drewN ?_ _ | refine blk_drew ?_ | refine blk_alloc ?_ _)); refine blk_far ?_ NB149_148.out _; (with_reducible repeat (first | refine blk_drewN ?_ _ | refine blk_drew ?_ | refine blk_alloc ?_ _)); refine blk_far ?_ NB149_148.out _; (with_reducible repeat (first | refine blk_drewN ?_ _ | refine blk_drew ?_ | refine blk_alloc ?_ _)); exact BK149.out⟩, ⟨by repeat (first | (with_reducible first | exact HB.out | apply below_alloc | apply pw_below_drewN | apply below_drew1 | refine below_set ?_ GE148.out | refine below_set ?_ GE149.out) | exact HB.out)⟩⟩
          · rw [if_neg c10] at H
            exact absurd H (by simp)
        · rw [if_neg c9] at H
          have c9b0 : decide (x5_1 < (l0.length : Int)) = false := decide_eq_false c9
          clear c9
          (first | rw [c9b0] | (simp only [i64_w, i32_w]; rw [c9b0]) | skip)
          have H' := Aside0.mk H
          clear H
          go_wp2
          go_meet
          case rel => exact ⟨_, (false), ((⟨#[]⟩ : ByteArray)), H', ⟨by have := HK1.out; have := HJ2.out; first | omega | exact Nat.le_refl _⟩, ⟨by (with_reducible repeat (first | refine blk_drewN ?_ _ | refine blk_drew ?_ | refine blk_alloc ?_ _)); exact BK148.out⟩, ⟨by (with_reducible repeat (first | refine blk_drewN ?_ _ | refine blk_drew ?_ | refine blk_alloc ?_ _)); exact BK149.out⟩, ⟨by repeat (first | (with_reducible first | exact HB.out | apply below_alloc | apply pw_below_drewN | apply below_drew1 | refine below_set ?_ GE148.out | refine below_set ?_ GE149.out) | exact HB.out)⟩⟩
       case rest =>
        clear HC6
        try clear c1
        try clear p1
        try clear q1
        try clear hx1
        try clear c2
        try clear p2
        try clear c4
        try clear c4b0
        try clear c5
        try clear c9
        try clear c9b0
        try clear c10
        try clear c10b0
        try clear c11
        try clear hcz12_0
        try clear hcz12_1
        try clear hfz12_0
        try clear hfz12_1
        try clear hx150_0
        try clear hx150_1
        try clear p150
        try clear p2
        try clear q150
        obtain ⟨kq, x149000_5, x149001_5, HA, HJ5, BK148, BK149, HB⟩ := hcut
        cases kq with
        | zero => exact absurd HA.out (by simp [spec_CompareNumbers.j2])
        | succ kj5 =>
         have H := HA.out
         clear HA
         simp only [spec_CompareNumbers.j2] at H
         by_cases c13 : x5_1 < (l1.length : Int)
         · rw [if_pos c13] at H
           have c13b0 : decide (x5_1 < (l1.length : Int)) = true := decide_eq_true c13
           clear c13
           by_cases c14 : 0 ≤ x5_1
           · rw [if_pos c14] at H
             have c14b0 : decide (0 ≤ x5_1) = true := decide_eq_true c14
             clear c14
             replace H := Option.bind_eq_some_iff.mp H
             obtain ⟨t152, A150, H⟩ := H
             replace H : (if t152 = 0 then (spec_CompareNumbers.l0 kj5 l0 l1 (wrap64 (x5_1 + 1))) else (some t152)) = some r := H
             have A15 := Aside0.mk A150
             clear A150
             by_cases c16 : t152 = 0
             · rw [if_pos c16] at H
               have c16b0 : (t152 == 0) = true := beq_iff_eq.mpr c16
               have c16b1 : (t152 != 0) = false := bne_eq_false_iff_eq.mpr c16
               clear c16
               have H' := Aside0.mk H
               clear H
               have p151 : 0 ≤ (x5_1 : Int) := of_decide_eq_true (by first | (with_reducible assumption) | assumption)
               have q151 : x5_1 < (l1.length : Int) := of_decide_eq_true (by first | (with_reducible assumption) | assumption)
               obtain ⟨ad151, e151, hx151_0, hx151_1⟩ := at_T55 HR1.out x5_1 p151 q151
               cases e151
               replace hx151_0 := (HB.out.cell (World.block_lt_of_cell? w _ hx151_0)).trans hx151_0
               replace hx151_1 := (HB.out.cell (World.block_lt_of_cell? w _ hx151_1)).trans hx151_1
               replace p151 := eq_true p151
               replace q151 := eq_true q151
               have hnb17 := NB149_148.out
               have hnc17 := NB148_149.out
               have hcz18_0 : wc.cell? ⟨gb149, 0, none⟩ = some (.bool false) := (blk_cell BK149.out 0).trans rfl
               have hcz18_1 : wc.cell? ⟨gb149, 1, none⟩ = some (.string (⟨#[]⟩ : ByteArray)) := (blk_cell BK149.out 1).trans rfl
               have hfz18_0 := blk_frozen BK149.out 0
               have hfz18_1 := blk_frozen BK149.out 1
               have hcz19_0 : wc.cell? ⟨gb148, 0, none⟩ = some (.bool x149000_5) := (blk_cell BK148.out 0).trans rfl
               have hcz19_1 : wc.cell? ⟨gb148, 1, none⟩ = some (.string x149001_5) := (blk_cell BK148.out 1).trans rfl
               have hfz19_0 := blk_frozen BK148.out 0
               have hfz19_1 := blk_frozen BK148.out 1
               go_wp2_with (first | ((with_reducible refine gate_callee (f := 39) rfl ?_); refine goesL_ (some 39) rfl rfl Tryz.func39 (by kernel_rfl) rfl #[.agg #[.bool x149000_5, .string x149001_5], .agg #[.bool ((rd_T55 l1 x5_1).f0), .string ((rd_T55 l1 x5_1).f1)]] rfl (by (try simp only [List.map_toArray, List.map_cons, List.map_nil]); first | done | rfl | (simp only [List.length_drop, List.length_take]; rfl)) ?_; (with_reducible refine (spec_intOrder.calls kj5 x149000_5 x149001_5 ((rd_T55 l1 x5_1).f0) ((rd_T55 l1 x5_1).f1) t152 _ A15.out).mono ?_); rintro e w20 ⟨rfl, hb⟩; refine ⟨_, rfl, ?_⟩; have n0_ := Aside0.mk (blk_below (g := gb148) (o := .cells #[.bool x149000_5, .string x149001_5] 55 (0, 0)) (by (with_reducible repeat (first | refine blk_drewN ?_ _ | refine blk_drew ?_ | refine blk_alloc ?_ _)); refine blk_far ?_ NB148_149.out _; (with_reducible repeat (first | refine blk_drewN ?_ _ | refine blk_drew ?_ | refine blk_alloc ?_ _)); refine blk_far ?_ NB148_149.out _; (with_reducible repeat (first | refine blk_drewN ?_ _ | refine blk_drew ?_ | refine blk_alloc ?_ _)); exact BK148.out) hb); have n1_ := Aside0.mk (blk_below (g := gb149) (o := .cells #[.bool ((rd_T55 l1 x5_1).f0), .string ((rd_T55 l1 x5_1).f1)] 55 (0, 0)) (by (with_reducible repeat (first | refine blk_drewN ?_ _ | refine blk_drew ?_ | refine blk_alloc ?_ _)); refine blk_put (cs := #[.bool ((rd_T55 l1 x5_1).f0), .string (⟨#[]⟩ : ByteArray)]) ?_ 1 _ rfl; (with_reducible repeat (first | refine blk_drewN ?_ _ | refine blk_drew ?_ | refine blk_alloc ?_ _)); refine blk_put (cs := #[.bool false, .string (⟨#[]⟩ : ByteArray)]) ?_ 0 _ rfl; (with_reducible repeat (first | refine blk_drewN ?_ _ | refine blk_drew ?_ | refine blk_alloc ?_ _)); exact BK149.out) hb); have n2_ := Aside0.mk (below_step (by repeat (first | (with_reducible first | exact HB.out | apply below_alloc | apply pw_below_drewN | apply below_drew1 | refine below_set ?_ GE148.out | refine below_set ?_ GE149.out) | exact HB.out)) hb); clear BK148; clear BK149; clear HB; have BK148 := n0_; have BK149 := n1_; have HB := n2_; clear n0_ n1_ n2_; (try clear hb); (try clear hb2); (try clear hk); (try clear hi)))
               go_roundg kj5
               case measure => have := HK1.out; have := HJ2.out; have := HJ5.out; omega
               case rel => exact ⟨(wrap64 (x5_1 + 1)), (by first | rfl | (simp; done) | (simp [*]; done) | (simp [bne_nil_]; done)), H', ⟨by have := HK1.out; have := HJ2.out; have := HJ5.out; omega⟩, ⟨by repeat (first | (with_reducible first | exact HB.out | apply below_alloc | apply pw_below_drewN | apply below_drew1 | refine below_set ?_ GE148.out | refine below_set ?_ GE149.out) | exact HB.out)⟩⟩
             · rw [if_neg c16] at H
               have c16b0 : (t152 == 0) = false := beq_eq_false_iff_ne.mpr c16
               have c16b1 : (t152 != 0) = true := bne_iff_ne.mpr c16
               obtain rfl := Option.some.inj H
               have p151 : 0 ≤ (x5_1 : Int) := of_decide_eq_true (by first | (with_reducible assumption) | assumption)
               have q151 : x5_1 < (l1.length : Int) := of_decide_eq_true (by first | (with_reducible assumption) | assumption)
               obtain ⟨ad151, e151, hx151_0, hx151_1⟩ := at_T55 HR1.out x5_1 p151 q151
               cases e151
               replace hx151_0 := (HB.out.cell (World.block_lt_of_cell? w _ hx151_0)).trans hx151_0
               replace hx151_1 := (HB.out.cell (World.block_lt_of_cell? w _ hx151_1)).trans hx151_1
               replace p151 := eq_true p151
               replace q151 := eq_true q151
               have hnb21 := NB149_148.out
               have hnc21 := NB148_149.out
               have hcz22_0 : wc.cell? ⟨gb149, 0, none⟩ = some (.bool false) := (blk_cell BK149.out 0).trans rfl
               have hcz22_1 : wc.cell? ⟨gb149, 1, none⟩ = some (.string (⟨#[]⟩ : ByteArray)) := (blk_cell BK149.out 1).trans rfl
               have hfz22_0 := blk_frozen BK149.out 0
               have hfz22_1 := blk_frozen BK149.out 1
               have hcz23_0 : wc.cell? ⟨gb148, 0, none⟩ = some (.bool x149000_5) := (blk_cell BK148.out 0).trans rfl
               have hcz23_1 : wc.cell? ⟨gb148, 1, none⟩ = some (.string x149001_5) := (blk_cell BK148.out 1).trans rfl
               have hfz23_0 := blk_frozen BK148.out 0
               have hfz23_1 := blk_frozen BK148.out 1
               go_wp2_with (first | ((with_reducible refine gate_callee (f := 39) rfl ?_); refine goesL_ (some 39) rfl rfl Tryz.func39 (by kernel_rfl) rfl #[.agg #[.bool x149000_5, .string x149001_5], .agg #[.bool ((rd_T55 l1 x5_1).f0), .string ((rd_T55 l1 x5_1).f1)]] rfl (by (try simp only [List.map_toArray, List.map_cons, List.map_nil]); first | done | rfl | (simp only [List.length_drop, List.length_take]; rfl)) ?_; (with_reducible refine (spec_intOrder.calls kj5 x149000_5 x149001_5 ((rd_T55 l1 x5_1).f0) ((rd_T55 l1 x5_1).f1) t152 _ A15.out).mono ?_); rintro e w24 ⟨rfl, hb⟩; refine ⟨_, rfl, ?_⟩; have n0_ := Aside0.mk (blk_below (g := gb148) (o := .cells #[.bool x149000_5, .string x149001_5] 55 (0, 0)) (by (with_reducible repeat (first | refine blk_drewN ?_ _ | refine blk_drew ?_ | refine blk_alloc ?_ _)); refine blk_far ?_ NB148_149.out _; (with_reducible repeat (first | refine blk_drewN ?_ _ | refine blk_drew ?_ | refine blk_alloc ?_ _)); refine blk_far ?_ NB148_149.out _; (with_reducible repeat (first | refine blk_drewN ?_ _ | refine blk_drew ?_ | refine blk_alloc ?_ _)); exact BK148.out) hb); have n1_ := Aside0.mk (blk_below (g := gb149) (o := .cells #[.bool ((rd_T55 l1 x5_1).f0), .string ((rd_T55 l1 x5_1).f1)] 55 (0, 0)) (by (with_reducible repeat (first | refine blk_drewN ?_ _ | refine blk_drew ?_ | refine blk_alloc ?_ _)); refine blk_put (cs := #[.bool ((rd_T55 l1 x5_1).f0), .string (⟨#[]⟩ : ByteArray)]) ?_ 1 _ rfl; (with_reducible repeat (first | refine blk_drewN ?_ _ | refine blk_drew ?_ | refine blk_alloc ?_ _)); refine blk_put (cs := #[.bool false, .string (⟨#[]⟩ : ByteArray)]) ?_ 0 _ rfl; (with_reducible repeat (first | refine blk_drewN ?_ _ | refine blk_drew ?_ | refine blk_alloc ?_ _)); exact BK149.out) hb); have n2_ := Aside0.mk (below_step (by repeat (first | (with_reducible first | exact HB.out | apply below_alloc | apply pw_below_drewN | apply below_drew1 | refine below_set ?_ GE148.out | refine below_set ?_ GE149.out) | exact HB.out)) hb); clear BK148; clear BK149; clear HB; have BK148 := n0_; have BK149 := n1_; have HB := n2_; clear n0_ n1_ n2_; (try clear hb); (try clear hb2); (try clear hk); (try clear hi)))
               go_ret
               exact ⟨by first | rfl | (simp [errW_none, errW_some] <;> rfl) | (simp [*, errW_none, errW_some] <;> rfl) | (simp [bne_nil_]; done), by repeat (first | (with_reducible first | exact HB.out | apply below_alloc | apply pw_below_drewN | apply below_drew1 | refine below_set ?_ GE148.out | refine below_set ?_ GE149.out) | exact HB.out)⟩
           · rw [if_neg c14] at H
             exact absurd H (by simp)
         · rw [if_neg c13] at H
           have c13b0 : decide (x5_1 < (l1.length : Int)) = false := decide_eq_false c13
           clear c13
           replace H := Option.bind_eq_some_iff.mp H
           obtain ⟨t153, A250, H⟩ := H
           replace H : (if t153 = 0 then (spec_CompareNumbers.l0 kj5 l0 l1 (wrap64 (x5_1 + 1))) else (some t153)) = some r := H
           have A25 := Aside0.mk A250
           clear A250
           by_cases c26 : t153 = 0
           · rw [if_pos c26] at H
             have c26b0 : (t153 == 0) = true := beq_iff_eq.mpr c26
             have c26b1 : (t153 != 0) = false := bne_eq_false_iff_eq.mpr c26
             clear c26
             have H' := Aside0.mk H
             clear H
             have hnb27 := NB148_149.out
             have hnc27 := NB149_148.out
             have hcz28_0 : wc.cell? ⟨gb148, 0, none⟩ = some (.bool x149000_5) := (blk_cell BK148.out 0).trans rfl
             have hcz28_1 : wc.cell? ⟨gb148, 1, none⟩ = some (.string x149001_5) := (blk_cell BK148.out 1).trans rfl
             have hfz28_0 := blk_frozen BK148.out 0
             have hfz28_1 := blk_frozen BK148.out 1
             have hcz29_0 : wc.cell? ⟨gb149, 0, none⟩ = some (.bool false) := (blk_cell BK149.out 0).trans rfl
             have hcz29_1 : wc.cell? ⟨gb149, 1, none⟩ = some (.string (⟨#[]⟩ : ByteArray)) := (blk_cell BK149.out 1).trans rfl
             have hfz29_0 := blk_frozen BK149.out 0
             have hfz29_1 := blk_frozen BK149.out 1
             go_wp2_with (first | ((with_reducible refine gate_callee (f := 39) rfl ?_); refine goesL_ (some 39) rfl rfl Tryz.func39 (by kernel_rfl) rfl #[.agg #[.bool x149000_5, .string x149001_5], .agg #[.bool false, .string (⟨#[]⟩ : ByteArray)]] rfl (by (try simp only [List.map_toArray, List.map_cons, List.map_nil]); first | done | rfl | (simp only [List.length_drop, List.length_take]; rfl)) ?_; (with_reducible refine (spec_intOrder.calls kj5 x149000_5 x149001_5 false (⟨#[]⟩ : ByteArray) t153 _ A25.out).mono ?_); rintro e w30 ⟨rfl, hb⟩; refine ⟨_, rfl, ?_⟩; have n0_ := Aside0.mk (blk_below (g := gb148) (o := .cells #[.bool x149000_5, .string x149001_5] 55 (0, 0)) (by (with_reducible repeat (first | refine blk_drewN ?_ _ | refine blk_drew ?_ | refine blk_alloc ?_ _)); exact BK148.out) hb); have n1_ := Aside0.mk (blk_below (g := gb149) (o := .cells #[.bool false, .string (⟨#[]⟩ : ByteArray)] 55 (0, 0)) (by (with_reducible repeat (first | refine blk_drewN ?_ _ | refine blk_drew ?_ | refine blk_alloc ?_ _)); exact BK149.out) hb); have n2_ := Aside0.mk (below_step (by repeat (first | (with_reducible first | exact HB.out | apply below_alloc | apply pw_below_drewN | apply below_drew1 | refine below_set ?_ GE148.out | refine below_set ?_ GE149.out) | exact HB.out)) hb); clear BK148; clear BK149; clear HB; have BK148 := n0_; have BK149 := n1_; have HB := n2_; clear n0_ n1_ n2_; (try clear hb); (try clear hb2); (try clear hk); (try clear hi)))
             go_roundg kj5
             case measure => have := HK1.out; have := HJ2.out; have := HJ5.out; omega
             case rel => exact ⟨(wrap64 (x5_1 + 1)), (by first | rfl | (simp; done) | (simp [*]; done) | (simp [bne_nil_]; done)), H', ⟨by have := HK1.out; have := HJ2.out; have := HJ5.out; omega⟩, ⟨by repeat (first | (with_reducible first | exact HB.out | apply below_alloc | apply pw_below_drewN | apply below_drew1 | refine below_set ?_ GE148.out | refine below_set ?_ GE149.out) | exact HB.out)⟩⟩
           · rw [if_neg c26] at H
             have c26b0 : (t153 == 0) = false := beq_eq_false_iff_ne.mpr c26
             have c26b1 : (t153 != 0) = true := bne_iff_ne.mpr c26
             obtain rfl := Option.some.inj H
             have hnb31 := NB148_149.out
             have hnc31 := NB149_148.out
             have hcz32_0 : wc.cell? ⟨gb148, 0, none⟩ = some (.bool x149000_5) := (blk_cell BK148.out 0).trans rfl
             have hcz32_1 : wc.cell? ⟨gb148, 1, none⟩ = some (.string x149001_5) := (blk_cell BK148.out 1).trans rfl
             have hfz32_0 := blk_frozen BK148.out 0
             have hfz32_1 := blk_frozen BK148.out 1
             have hcz33_0 : wc.cell? ⟨gb149, 0, none⟩ = some (.bool false) := (blk_cell BK149.out 0).trans rfl
             have hcz33_1 : wc.cell? ⟨gb149, 1, none⟩ = some (.string (⟨#[]⟩ : ByteArray)) := (blk_cell BK149.out 1).trans rfl
             have hfz33_0 := blk_frozen BK149.out 0
             have hfz33_1 := blk_frozen BK149.out 1
             go_wp2_with (first | ((with_reducible refine gate_callee (f := 39) rfl ?_); refine goesL_ (some 39) rfl rfl Tryz.func39 (by kernel_rfl) rfl #[.agg #[.bool x149000_5, .string x149001_5], .agg #[.bool false, .string (⟨#[]⟩ : ByteArray)]] rfl (by (try simp only [List.map_toArray, List.map_cons, List.map_nil]); first | done | rfl | (simp only [List.length_drop, List.length_take]; rfl)) ?_; (with_reducible refine (spec_intOrder.calls kj5 x149000_5 x149001_5 false (⟨#[]⟩ : ByteArray) t153 _ A25.out).mono ?_); rintro e w34 ⟨rfl, hb⟩; refine ⟨_, rfl, ?_⟩; have n0_ := Aside0.mk (blk_below (g := gb148) (o := .cells #[.bool x149000_5, .string x149001_5] 55 (0, 0)) (by (with_reducible repeat (first | refine blk_drewN ?_ _ | refine blk_drew ?_ | refine blk_alloc ?_ _)); exact BK148.out) hb); have n1_ := Aside0.mk (blk_below (g := gb149) (o := .cells #[.bool false, .string (⟨#[]⟩ : ByteArray)] 55 (0, 0)) (by (with_reducible repeat (first | refine blk_drewN ?_ _ | refine blk_drew ?_ | refine blk_alloc ?_ _)); exact BK149.out) hb); have n2_ := Aside0.mk (below_step (by repeat (first | (with_reducible first | exact HB.out | apply below_alloc | apply pw_below_drewN | apply below_drew1 | refine below_set ?_ GE148.out | refine below_set ?_ GE149.out) | exact HB.out)) hb); clear BK148; clear BK149; clear HB; have BK148 := n0_; have BK149 := n1_; have HB := n2_; clear n0_ n1_ n2_; (try clear hb); (try clear hb2); (try clear hk); (try clear hi)))
             go_ret
             exact ⟨by first | rfl | (simp [errW_none, errW_some] <;> rfl) | (simp [*, errW_none, errW_some] <;> rfl) | (simp [bne_nil_]; done), by repeat (first | (with_reducible first | exact HB.out | apply below_alloc | apply pw_below_drewN | apply below_drew1 | refine below_set ?_ GE148.out | refine below_set ?_ GE149.out) | exact HB.out)⟩
     · replace c5 := Bool.eq_false_iff.mpr c5
       subst c5
       have H1 : (some 0) = some r := by rw [if_neg (show ¬ (false = true) by decide)] at H; exact H
       clear H
       have H := H1
       clear H1
       obtain rfl := Option.some.inj H
       go_wp2
       go_ret
       exact ⟨by first | rfl | (simp [errW_none, errW_some] <;> rfl) | (simp [*, errW_none, errW_some] <;> rfl) | (simp [bne_nil_]; done), by repeat (first | (with_reducible first | exact HB.out | apply below_alloc | apply pw_below_drewN | apply below_drew1) | exact HB.out)⟩

/-! ### spec_orderNumbers: function 64 -/
mutual
def spec_orderNumbers.j1 : Nat → ByteArray → ByteArray → Option (Int)
 | 0, _, _ => none
 | k + 1, x0, x1 => spec_orderNumbers.l1 k x0 x1
def spec_orderNumbers.j3 : Nat → ByteArray → ByteArray → Option (Int)
 | 0, _, _ => none
 | k + 1, x0, x1 => if (x0.size : Int) = (x1.size : Int) then ((Giv.spec_order.f x0 x1).bind fun t154 => (some t154)) else ((spec_orderInts.f (x0.size : Int) (x1.size : Int)).bind fun t155 => (some t155))
def spec_orderNumbers.l1 : Nat → ByteArray → ByteArray → Option (Int)
 | 0, _, _ => none
 | k + 1, x0, x1 => if (x1.size : Int) > 0 then (if 0 < (x1.size : Int) then (if (bt x1 0) = 48 then (if 1 ≤ (x1.size : Int) then (spec_orderNumbers.l1 k x0 (x1.extract 1 x1.size)) else (none)) else (spec_orderNumbers.j3 k x0 x1)) else (none)) else (spec_orderNumbers.j3 k x0 x1)
def spec_orderNumbers.l0 : Nat → ByteArray → ByteArray → Option (Int)
 | 0, _, _ => none
 | k + 1, x0, x1 => if (x0.size : Int) > 0 then (if 0 < (x0.size : Int) then (if (bt x0 0) = 48 then (if 1 ≤ (x0.size : Int) then (spec_orderNumbers.l0 k (x0.extract 1 x0.size) x1) else (none)) else (spec_orderNumbers.j1 k x0 x1)) else (none)) else (spec_orderNumbers.j1 k x0 x1)
end
def spec_orderNumbers.f (k : Nat) (a0 : ByteArray) (a1 : ByteArray) : Option (Int) := spec_orderNumbers.l0 k a0 a1
theorem spec_orderNumbers.mono_l : ∀ k, (∀ y0 y1, LeO (spec_orderNumbers.j1 k y0 y1) (spec_orderNumbers.j1 (k + 1) y0 y1)) ∧ (∀ y0 y1, LeO (spec_orderNumbers.j3 k y0 y1) (spec_orderNumbers.j3 (k + 1) y0 y1)) ∧ (∀ y0 y1, LeO (spec_orderNumbers.l1 k y0 y1) (spec_orderNumbers.l1 (k + 1) y0 y1)) ∧ (∀ y0 y1, LeO (spec_orderNumbers.l0 k y0 y1) (spec_orderNumbers.l0 (k + 1) y0 y1))
 | 0 => ⟨fun _ _ r h => by simp [spec_orderNumbers.j1] at h, fun _ _ r h => by simp [spec_orderNumbers.j3] at h, fun _ _ r h => by simp [spec_orderNumbers.l1] at h, fun _ _ r h => by simp [spec_orderNumbers.l0] at h⟩
 | k + 1 => by
  obtain ⟨ih0, ih1, ih2, ih3⟩ := spec_orderNumbers.mono_l k
  refine ⟨?_, ?_, ?_, ?_⟩
  · intro y0 y1
    unfold spec_orderNumbers.j1
    repeat' first
    | (with_reducible exact ih0 _ _)
    | (with_reducible exact ih1 _ _)
    | (with_reducible exact ih2 _ _)
    | (with_reducible exact ih3 _ _)
    | (with_reducible exact LeO.refl _)
    | (with_reducible exact LeO.none _)
    | (with_reducible refine LeO.ite ?_ ?_)
    | (with_reducible refine LeO.bind ?_ (fun _ => ?_))
    | exact ih0 _ _
    | exact ih1 _ _
    | exact ih2 _ _
    | exact ih3 _ _
    | exact LeO.none _
    | refine LeO.ite ?_ ?_
    | refine LeO.bind ?_ (fun _ => ?_)
  · intro y0 y1
    unfold spec_orderNumbers.j3
    repeat' first
    | (with_reducible exact ih0 _ _)
    | (with_reducible exact ih1 _ _)
    | (with_reducible exact ih2 _ _)
    | (with_reducible exact ih3 _ _)
    | (with_reducible exact LeO.refl _)
    | (with_reducible exact LeO.none _)
    | (with_reducible refine LeO.ite ?_ ?_)
    | (with_reducible refine LeO.bind ?_ (fun _ => ?_))
    | exact ih0 _ _
    | exact ih1 _ _
    | exact ih2 _ _
    | exact ih3 _ _
    | exact LeO.none _
    | refine LeO.ite ?_ ?_
    | refine LeO.bind ?_ (fun _ => ?_)
  · intro y0 y1
    unfold spec_orderNumbers.l1
    repeat' first
    | (with_reducible exact ih0 _ _)
    | (with_reducible exact ih1 _ _)
    | (with_reducible exact ih2 _ _)
    | (with_reducible exact ih3 _ _)
    | (with_reducible exact LeO.refl _)
    | (with_reducible exact LeO.none _)
    | (with_reducible refine LeO.ite ?_ ?_)
    | (with_reducible refine LeO.bind ?_ (fun _ => ?_))
    | exact ih0 _ _
    | exact ih1 _ _
    | exact ih2 _ _
    | exact ih3 _ _
    | exact LeO.none _
    | refine LeO.ite ?_ ?_
    | refine LeO.bind ?_ (fun _ => ?_)
  · intro y0 y1
    unfold spec_orderNumbers.l0
    repeat' first
    | (with_reducible exact ih0 _ _)
    | (with_reducible exact ih1 _ _)
    | (with_reducible exact ih2 _ _)
    | (with_reducible exact ih3 _ _)
    | (with_reducible exact LeO.refl _)
    | (with_reducible exact LeO.none _)
    | (with_reducible refine LeO.ite ?_ ?_)
    | (with_reducible refine LeO.bind ?_ (fun _ => ?_))
    | exact ih0 _ _
    | exact ih1 _ _
    | exact ih2 _ _
    | exact ih3 _ _
    | exact LeO.none _
    | refine LeO.ite ?_ ?_
    | refine LeO.bind ?_ (fun _ => ?_)
theorem spec_orderNumbers.mono : ∀ a0 a1 k, LeO (spec_orderNumbers.f k a0 a1) (spec_orderNumbers.f (k + 1) a0 a1) := by
 intro a0 a1 k
 obtain ⟨ih0, ih1, ih2, ih3⟩ := spec_orderNumbers.mono_l k
 unfold spec_orderNumbers.f
 repeat' first
  | (with_reducible exact ih0 _ _)
  | (with_reducible exact ih1 _ _)
  | (with_reducible exact ih2 _ _)
  | (with_reducible exact ih3 _ _)
  | (with_reducible exact LeO.refl _)
  | (with_reducible exact LeO.none _)
  | (with_reducible refine LeO.ite ?_ ?_)
  | (with_reducible refine LeO.bind ?_ (fun _ => ?_))
  | exact ih0 _ _
  | exact ih1 _ _
  | exact ih2 _ _
  | exact ih3 _ _
  | exact LeO.none _
  | refine LeO.ite ?_ ?_
  | refine LeO.bind ?_ (fun _ => ?_)
set_option maxHeartbeats 8000000 in
set_option maxRecDepth 100000 in
theorem spec_orderNumbers.calls (k : Nat) (a0 : ByteArray) (a1 : ByteArray) (r : Int) (w : World) (h : spec_orderNumbers.f k a0 a1 = some r) :
 Calls Tryz.prog 64 #[.string a0, .string a1] w fun e w' => e = .returned (.int .i64 r) ∧ Drawn0 w w' := by
 have H : (spec_orderNumbers.l0 k a0 a1) = some r := h
 clear h
 have HC3 := Aside0.mk H
 clear H
 go_enter Tryz.func64, Tryz.ntmps64
 go_upto_block 0 with (fail)
 go_cut [0] (fun v0 wc => ∃ (kq : Nat) (x0_2 : ByteArray), v0 = .string x0_2 ∧ Aside0 (spec_orderNumbers.j1 kq x0_2 a1 = some r) ∧ Aside0 (kq ≤ k) ∧ Drawn0 w wc)
 case first =>
  have H := HC3.out
  clear HC3
  have H' := Aside0.mk H
  clear H
  go_wp2
  go_loopg [0] k (fun kq v0 w' => ∃ (x0_1 : ByteArray), v0 = .string x0_1 ∧ Aside0 (spec_orderNumbers.l0 kq x0_1 a1 = some r) ∧ Aside0 (kq ≤ k) ∧ Drawn0 w w')
  case atStart => exact ⟨(a0), (by first | rfl | (simp; done) | (simp [*]; done) | (simp [bne_nil_]; done)), H', ⟨Nat.le_refl _⟩, by repeat (first | exact Drawn0.refl _ | apply Drawn0.step)⟩
  case round =>
   clear H'
   try clear p2
   obtain ⟨x0_1, rfl, HA, HK1, ⟨m1, rfl⟩⟩ := hrel
   cases gk with
   | zero => exact absurd HA.out (by simp [spec_orderNumbers.l0])
   | succ k1 =>
    have H := HA.out
    clear HA
    simp only [spec_orderNumbers.l0] at H
    by_cases c4 : (x0_1.size : Int) > 0
    · rw [if_pos c4] at H
      have c4b0 : decide (0 < (x0_1.size : Int)) = true := decide_eq_true c4
      have c4b1 : decide (0 < x0_1.size) = true := decide_eq_true (by omega)
      clear c4
      (first | rw [c4b0] | (simp only [i64_w, i32_w]; rw [c4b0]) | skip)
      by_cases c5 : 0 < (x0_1.size : Int)
      · rw [if_pos c5] at H
        have c5b0 : decide (0 < (x0_1.size : Int)) = true := decide_eq_true c5
        have c5b1 : decide (0 < x0_1.size) = true := decide_eq_true (by omega)
        clear c5
        by_cases c7 : (bt x0_1 0) = 48
        · rw [if_pos c7] at H
          have c7b0 : ((bt x0_1 0) == 48) = true := beq_iff_eq.mpr c7
          have c7b1 : ((bt x0_1 0) != 48) = false := bne_eq_false_iff_eq.mpr c7
          clear c7
          by_cases c8 : 1 ≤ (x0_1.size : Int)
          · rw [if_pos c8] at H
            have c8b0 := eq_true c8
            have c8b1 : decide (1 ≤ (x0_1.size : Int)) = true := decide_eq_true c8
            clear c8
            have H' := Aside0.mk H
            clear H
            have p6 : 0 ≤ (0 : Int) := (by omega)
            have q6 : 0 < x0_1.size := (by have : (0 : Int) < (x0_1.size : Int) := of_decide_eq_true (by first | (with_reducible assumption) | assumption); omega)
            have hx6 : ∀ h : 0 < x0_1.size, ((x0_1[0]'h).toNat : Int) = bt x0_1 0 := bt_at x0_1 0
            clear p6
            have qi6 : (0 < (x0_1.size : Int)) = True := eq_true (of_decide_eq_true (by first | (with_reducible assumption) | assumption))
            replace q6 := eq_true q6
            go_wp2
            go_roundg k1
            case measure => have := HK1.out; omega
            case rel => exact ⟨(x0_1.extract 1 x0_1.size), (by first | rfl | (simp; done) | (simp [*]; done) | (simp [bne_nil_]; done)), H', ⟨by have := HK1.out; omega⟩, by repeat (first | exact Drawn0.refl _ | apply Drawn0.step)⟩
          · rw [if_neg c8] at H
            exact absurd H (by simp)
        · rw [if_neg c7] at H
          have c7b0 : ((bt x0_1 0) == 48) = false := beq_eq_false_iff_ne.mpr c7
          have c7b1 : ((bt x0_1 0) != 48) = true := bne_iff_ne.mpr c7
          have H' := Aside0.mk H
          clear H
          have p6 : 0 ≤ (0 : Int) := (by omega)
          have q6 : 0 < x0_1.size := (by have : (0 : Int) < (x0_1.size : Int) := of_decide_eq_true (by first | (with_reducible assumption) | assumption); omega)
          have hx6 : ∀ h : 0 < x0_1.size, ((x0_1[0]'h).toNat : Int) = bt x0_1 0 := bt_at x0_1 0
          clear p6
          have qi6 : (0 < (x0_1.size : Int)) = True := eq_true (of_decide_eq_true (by first | (with_reducible assumption) | assumption))
          replace q6 := eq_true q6
          go_wp2
          go_meet
          case rel => exact ⟨_, (x0_1), (by first | rfl | (simp; done) | (simp [*]; done) | (simp [bne_nil_]; done)), H', ⟨by have := HK1.out; first | omega | exact Nat.le_refl _⟩, by repeat (first | exact Drawn0.refl _ | apply Drawn0.step)⟩
      · rw [if_neg c5] at H
        exact absurd H (by simp)
    · rw [if_neg c4] at H
      have c4b0 : decide (0 < (x0_1.size : Int)) = false := decide_eq_false c4
      have c4b1 : decide (0 < x0_1.size) = false := decide_eq_false (by omega)
      clear c4
      (first | rw [c4b0] | (simp only [i64_w, i32_w]; rw [c4b0]) | skip)
      have H' := Aside0.mk H
      clear H
      go_wp2
      go_meet
      case rel => exact ⟨_, (x0_1), (by first | rfl | (simp; done) | (simp [*]; done) | (simp [bne_nil_]; done)), H', ⟨by have := HK1.out; first | omega | exact Nat.le_refl _⟩, by repeat (first | exact Drawn0.refl _ | apply Drawn0.step)⟩
 case rest =>
  clear HC3
  try clear p2
  try clear c4
  try clear c4b0
  try clear c4b1
  try clear c5
  try clear c5b0
  try clear c5b1
  try clear c6
  try clear p6
  try clear q6
  try clear hx6
  try clear qi6
  try clear c7
  try clear c7b0
  try clear c7b1
  try clear c8
  try clear c8b0
  try clear c8b1
  try clear p2
  try clear p6
  try clear q6
  obtain ⟨kq, x0_2, rfl, HA, HJ2, ⟨mc2, rfl⟩⟩ := hcut
  cases kq with
  | zero => exact absurd HA.out (by simp [spec_orderNumbers.j1])
  | succ kj2 =>
   have H := HA.out
   clear HA
   simp only [spec_orderNumbers.j1] at H
   have HC9 := Aside0.mk H
   clear H
   go_upto_block 2 with (fail)
   go_cut [1] (fun v1 wc => ∃ (kq : Nat) (x1_8 : ByteArray), v1 = .string x1_8 ∧ Aside0 (spec_orderNumbers.j3 kq x0_2 x1_8 = some r) ∧ Aside0 (kq ≤ kj2) ∧ Drawn0 w wc)
   case first =>
    have H := HC9.out
    clear HC9
    have H' := Aside0.mk H
    clear H
    go_wp2
    go_loopg [1] kj2 (fun kq v1 w' => ∃ (x1_2 : ByteArray), v1 = .string x1_2 ∧ Aside0 (spec_orderNumbers.l1 kq x0_2 x1_2 = some r) ∧ Aside0 (kq ≤ kj2) ∧ Drawn0 w w')
    case atStart => exact ⟨(a1), (by first | rfl | (simp; done) | (simp [*]; done) | (simp [bne_nil_]; done)), H', ⟨Nat.le_refl _⟩, by repeat (first | exact Drawn0.refl _ | apply Drawn0.step)⟩
    case round =>
     clear H'
     try clear c2
     try clear p2
     try clear c4
     try clear c4b0
     try clear c4b1
     try clear c5
     try clear c5b0
     try clear c5b1
     try clear c6
     try clear p6
     try clear q6
     try clear hx6
     try clear qi6
     try clear c7
     try clear c7b0
     try clear c7b1
     try clear c8
     try clear c8b0
     try clear c8b1
     try clear p2
     try clear p6
     try clear q6
     obtain ⟨x1_2, rfl, HA, HK2, ⟨m2, rfl⟩⟩ := hrel
     cases gk with
     | zero => exact absurd HA.out (by simp [spec_orderNumbers.l1])
     | succ k2 =>
      have H := HA.out
      clear HA
      simp only [spec_orderNumbers.l1] at H
      by_cases c10 : (x1_2.size : Int) > 0
      · rw [if_pos c10] at H
        have c10b0 : decide (0 < (x1_2.size : Int)) = true := decide_eq_true c10
        have c10b1 : decide (0 < x1_2.size) = true := decide_eq_true (by omega)
        clear c10
        (first | rw [c10b0] | (simp only [i64_w, i32_w]; rw [c10b0]) | skip)
        by_cases c11 : 0 < (x1_2.size : Int)
        · rw [if_pos c11] at H
          have c11b0 : decide (0 < (x1_2.size : Int)) = true := decide_eq_true c11
          have c11b1 : decide (0 < x1_2.size) = true := decide_eq_true (by omega)
          clear c11
          by_cases c13 : (bt x1_2 0) = 48
          · rw [if_pos c13] at H
            have c13b0 : ((bt x1_2 0) == 48) = true := beq_iff_eq.mpr c13
            have c13b1 : ((bt x1_2 0) != 48) = false := bne_eq_false_iff_eq.mpr c13
            clear c13
            by_cases c14 : 1 ≤ (x1_2.size : Int)
            · rw [if_pos c14] at H
              have c14b0 := eq_true c14
              have c14b1 : decide (1 ≤ (x1_2.size : Int)) = true := decide_eq_true c14
              clear c14
              have H' := Aside0.mk H
              clear H
              have p12 : 0 ≤ (0 : Int) := (by omega)
              have q12 : 0 < x1_2.size := (by have : (0 : Int) < (x1_2.size : Int) := of_decide_eq_true (by first | (with_reducible assumption) | assumption); omega)
              have hx12 : ∀ h : 0 < x1_2.size, ((x1_2[0]'h).toNat : Int) = bt x1_2 0 := bt_at x1_2 0
              clear p12
              have qi12 : (0 < (x1_2.size : Int)) = True := eq_true (of_decide_eq_true (by first | (with_reducible assumption) | assumption))
              replace q12 := eq_true q12
              go_wp2
              go_roundg k2
              case measure => have := HJ2.out; have := HK2.out; omega
              case rel => exact ⟨(x1_2.extract 1 x1_2.size), (by first | rfl | (simp; done) | (simp [*]; done) | (simp [bne_nil_]; done)), H', ⟨by have := HJ2.out; have := HK2.out; omega⟩, by repeat (first | exact Drawn0.refl _ | apply Drawn0.step)⟩
            · rw [if_neg c14] at H
              exact absurd H (by simp)
          · rw [if_neg c13] at H
            have c13b0 : ((bt x1_2 0) == 48) = false := beq_eq_false_iff_ne.mpr c13
            have c13b1 : ((bt x1_2 0) != 48) = true := bne_iff_ne.mpr c13
            have H' := Aside0.mk H
            clear H
            have p12 : 0 ≤ (0 : Int) := (by omega)
            have q12 : 0 < x1_2.size := (by have : (0 : Int) < (x1_2.size : Int) := of_decide_eq_true (by first | (with_reducible assumption) | assumption); omega)
            have hx12 : ∀ h : 0 < x1_2.size, ((x1_2[0]'h).toNat : Int) = bt x1_2 0 := bt_at x1_2 0
            clear p12
            have qi12 : (0 < (x1_2.size : Int)) = True := eq_true (of_decide_eq_true (by first | (with_reducible assumption) | assumption))
            replace q12 := eq_true q12
            go_wp2
            go_meet
            case rel => exact ⟨_, (x1_2), (by first | rfl | (simp; done) | (simp [*]; done) | (simp [bne_nil_]; done)), H', ⟨by have := HJ2.out; have := HK2.out; first | omega | exact Nat.le_refl _⟩, by repeat (first | exact Drawn0.refl _ | apply Drawn0.step)⟩
        · rw [if_neg c11] at H
          exact absurd H (by simp)
      · rw [if_neg c10] at H
        have c10b0 : decide (0 < (x1_2.size : Int)) = false := decide_eq_false c10
        have c10b1 : decide (0 < x1_2.size) = false := decide_eq_false (by omega)
        clear c10
        (first | rw [c10b0] | (simp only [i64_w, i32_w]; rw [c10b0]) | skip)
        have H' := Aside0.mk H
        clear H
        go_wp2
        go_meet
        case rel => exact ⟨_, (x1_2), (by first | rfl | (simp; done) | (simp [*]; done) | (simp [bne_nil_]; done)), H', ⟨by have := HJ2.out; have := HK2.out; first | omega | exact Nat.le_refl _⟩, by repeat (first | exact Drawn0.refl _ | apply Drawn0.step)⟩
   case rest =>
    clear HC9
    try clear c1
    try clear p1
    try clear q1
    try clear hx1
    try clear qi1
    try clear c2
    try clear p2
    try clear c4
    try clear c4b0
    try clear c4b1
    try clear c5
    try clear c5b0
    try clear c5b1
    try clear c6
    try clear p6
    try clear q6
    try clear hx6
    try clear qi6
    try clear c7
    try clear c7b0
    try clear c7b1
    try clear c8
    try clear c8b0
    try clear c8b1
    try clear c10
    try clear c10b0
    try clear c10b1
    try clear c11
    try clear c11b0
    try clear c11b1
    try clear p12
    try clear q12
    try clear hx12
    try clear qi12
    try clear c13
    try clear c13b0
    try clear c13b1
    try clear c14
    try clear c14b0
    try clear c14b1
    try clear p12
    try clear p2
    try clear p6
    try clear q12
    try clear q6
    obtain ⟨kq, x1_8, rfl, HA, HJ8, ⟨mc8, rfl⟩⟩ := hcut
    cases kq with
    | zero => exact absurd HA.out (by simp [spec_orderNumbers.j3])
    | succ kj8 =>
     have H := HA.out
     clear HA
     simp only [spec_orderNumbers.j3] at H
     by_cases c15 : (x0_2.size : Int) = (x1_8.size : Int)
     · rw [if_pos c15] at H
       have c15b0 : ((x0_2.size : Int) == (x1_8.size : Int)) = true := beq_iff_eq.mpr c15
       have c15b1 : ((x0_2.size : Int) != (x1_8.size : Int)) = false := bne_eq_false_iff_eq.mpr c15
       have c15b2 : (x0_2.size == x1_8.size) = true := by first | simpa using c15 | (simp at c15 ⊢; omega)
       clear c15
       replace H := Option.bind_eq_some_iff.mp H
       obtain ⟨t154, A160, H⟩ := H
       replace H : (some t154) = some r := H
       have A16 := Aside0.mk A160
       clear A160
       obtain rfl := Option.some.inj H
       go_wp2_with (first | ((with_reducible refine gate_callee (f := 49) rfl ?_); refine goesL_ (some 37) rfl rfl Tryz.func49 (by kernel_rfl) rfl #[.string x0_2, .string x1_8] rfl (by (try simp only [List.map_toArray, List.map_cons, List.map_nil]); first | done | rfl | (simp only [List.length_drop, List.length_take]; rfl)) ?_; (with_reducible refine (Giv.spec_order.calls x0_2 x1_8 t154 _ A16.out).mono ?_); rintro e w' ⟨rfl, ⟨nd, rfl⟩⟩; refine ⟨_, rfl, ?_⟩))
       go_ret
       exact ⟨by first | rfl | (simp; done) | (simp [*]; done) | (simp [bne_nil_]; done), by repeat (first | exact Drawn0.refl _ | apply Drawn0.step)⟩
     · rw [if_neg c15] at H
       have c15b0 : ((x0_2.size : Int) == (x1_8.size : Int)) = false := beq_eq_false_iff_ne.mpr c15
       have c15b1 : ((x0_2.size : Int) != (x1_8.size : Int)) = true := bne_iff_ne.mpr c15
       have c15b2 : (x0_2.size == x1_8.size) = false := by first | simpa using c15 | (simp at c15 ⊢; omega)
       replace H := Option.bind_eq_some_iff.mp H
       obtain ⟨t155, A170, H⟩ := H
       replace H : (some t155) = some r := H
       have A17 := Aside0.mk A170
       clear A170
       obtain rfl := Option.some.inj H
       go_wp2_with (first | ((with_reducible refine gate_callee (f := 21) rfl ?_); refine goesL_ (some 34) rfl rfl Tryz.func21 (by kernel_rfl) rfl #[.int .i64 (x0_2.size : Int), .int .i64 (x1_8.size : Int)] rfl (by (try simp only [List.map_toArray, List.map_cons, List.map_nil]); first | done | rfl | (simp only [List.length_drop, List.length_take]; rfl)) ?_; (with_reducible refine (spec_orderInts.calls (x0_2.size : Int) (x1_8.size : Int) t155 _ A17.out).mono ?_); rintro e w' ⟨rfl, ⟨nd, rfl⟩⟩; refine ⟨_, rfl, ?_⟩))
       go_ret
       exact ⟨by first | rfl | (simp; done) | (simp [*]; done) | (simp [bne_nil_]; done), by repeat (first | exact Drawn0.refl _ | apply Drawn0.step)⟩

/-! ### spec_pageOne: function 50 -/
def spec_pageOne.j0 : Nat → ByteArray → ByteArray → Bool → Bool → Bool → Option (Int)
 | 0, _, _, _, _, _ => none
 | k + 1, x0, x1, x5, x6, x11 => if x11 = true then ((spec_orderNumbers.f k x0 x1).bind fun t158 => (some t158)) else (if x5 = true then (some (-1)) else (if x6 = true then (some 1) else ((Giv.spec_order.f x0 x1).bind fun t159 => (some t159))))
def spec_pageOne.f (k : Nat) (a0 : ByteArray) (a1 : ByteArray) : Option (Int) := (spec_allDigits.f k a0).bind fun t156 => ((spec_allDigits.f k a1).bind fun t157 => (if t156 = true then (spec_pageOne.j0 k a0 a1 t156 t157 t157) else (spec_pageOne.j0 k a0 a1 t156 t157 false)))
theorem spec_pageOne.mono_l : ∀ k, (∀ y0 y1 y2 y3 y4, LeO (spec_pageOne.j0 k y0 y1 y2 y3 y4) (spec_pageOne.j0 (k + 1) y0 y1 y2 y3 y4))
 | 0 => fun _ _ _ _ _ r h => by simp [spec_pageOne.j0] at h
 | k + 1 => by
  have ih0 := spec_pageOne.mono_l k
  · intro y0 y1 y2 y3 y4
    unfold spec_pageOne.j0
    repeat' first
    | (with_reducible exact ih0 _ _ _ _ _)
    | (with_reducible exact spec_allDigits.mono _ _)
    | (with_reducible exact spec_orderNumbers.mono _ _ _)
    | (with_reducible exact LeO.refl _)
    | (with_reducible exact LeO.none _)
    | (with_reducible refine LeO.ite ?_ ?_)
    | (with_reducible refine LeO.bind ?_ (fun _ => ?_))
    | exact ih0 _ _ _ _ _
    | exact spec_allDigits.mono _ _
    | exact spec_orderNumbers.mono _ _ _
    | exact LeO.none _
    | refine LeO.ite ?_ ?_
    | refine LeO.bind ?_ (fun _ => ?_)
theorem spec_pageOne.mono : ∀ a0 a1 k, LeO (spec_pageOne.f k a0 a1) (spec_pageOne.f (k + 1) a0 a1) := by
 intro a0 a1 k
 have ih0 := spec_pageOne.mono_l k
 unfold spec_pageOne.f
 repeat' first
  | (with_reducible exact ih0 _ _ _ _ _)
  | (with_reducible exact spec_allDigits.mono _ _)
  | (with_reducible exact spec_orderNumbers.mono _ _ _)
  | (with_reducible exact LeO.refl _)
  | (with_reducible exact LeO.none _)
  | (with_reducible refine LeO.ite ?_ ?_)
  | (with_reducible refine LeO.bind ?_ (fun _ => ?_))
  | exact ih0 _ _ _ _ _
  | exact spec_allDigits.mono _ _
  | exact spec_orderNumbers.mono _ _ _
  | exact LeO.none _
  | refine LeO.ite ?_ ?_
  | refine LeO.bind ?_ (fun _ => ?_)
set_option maxHeartbeats 8000000 in
set_option maxRecDepth 100000 in
theorem spec_pageOne.calls (k : Nat) (a0 : ByteArray) (a1 : ByteArray) (r : Int) (w : World) (h : spec_pageOne.f k a0 a1 = some r) :
 Calls Tryz.prog 50 #[.string a0, .string a1] w fun e w' => e = .returned (.int .i64 r) ∧ Drawn0 w w' := by
 have H : ((spec_allDigits.f k a0).bind fun t156 => ((spec_allDigits.f k a1).bind fun t157 => (if t156 = true then (spec_pageOne.j0 k a0 a1 t156 t157 t157) else (spec_pageOne.j0 k a0 a1 t156 t157 false)))) = some r := h
 clear h
 replace H := Option.bind_eq_some_iff.mp H
 obtain ⟨t156, A30, H⟩ := H
 replace H : ((spec_allDigits.f k a1).bind fun t157 => (if t156 = true then (spec_pageOne.j0 k a0 a1 t156 t157 t157) else (spec_pageOne.j0 k a0 a1 t156 t157 false))) = some r := H
 have A3 := Aside0.mk A30
 clear A30
 replace H := Option.bind_eq_some_iff.mp H
 obtain ⟨t157, A40, H⟩ := H
 replace H : (if t156 = true then (spec_pageOne.j0 k a0 a1 t156 t157 t157) else (spec_pageOne.j0 k a0 a1 t156 t157 false)) = some r := H
 have A4 := Aside0.mk A40
 clear A40
 have HC5 := Aside0.mk H
 clear H
 go_enter Tryz.func50, Tryz.ntmps50
 go_upto_region 2 with (first | ((with_reducible refine gate_callee (f := 45) rfl ?_); refine goesL_ (some 8) rfl rfl Tryz.func45 (by kernel_rfl) rfl #[.string a0] rfl (by (try simp only [List.map_toArray, List.map_cons, List.map_nil]); first | done | rfl | (simp only [List.length_drop, List.length_take]; rfl)) ?_; (with_reducible refine (spec_allDigits.calls k a0 t156 _ A3.out).mono ?_); rintro e w' ⟨rfl, ⟨nd, rfl⟩⟩; refine ⟨_, rfl, ?_⟩) | ((with_reducible refine gate_callee (f := 45) rfl ?_); refine goesL_ (some 10) rfl rfl Tryz.func45 (by kernel_rfl) rfl #[.string a1] rfl (by (try simp only [List.map_toArray, List.map_cons, List.map_nil]); first | done | rfl | (simp only [List.length_drop, List.length_take]; rfl)) ?_; (with_reducible refine (spec_allDigits.calls k a1 t157 _ A4.out).mono ?_); rintro e w' ⟨rfl, ⟨nd, rfl⟩⟩; refine ⟨_, rfl, ?_⟩))
 (try simp only [Act.put, List.setIfInBounds_toArray, List.set_cons_zero, List.set_cons_succ])
 go_cut [11] (fun v11 wc => ∃ (kq : Nat) (x11_4 : Bool), v11 = .bool x11_4 ∧ Aside0 (spec_pageOne.j0 kq a0 a1 t156 t157 x11_4 = some r) ∧ Aside0 (kq ≤ k) ∧ Drawn0 w wc)
 case first =>
  have H := HC5.out
  clear HC5
  by_cases c6 : t156 = true
  · subst c6
    have H1 : (spec_pageOne.j0 k a0 a1 true t157 t157) = some r := by rw [if_pos rfl] at H; exact H
    clear H
    have H := H1
    clear H1
    have H' := Aside0.mk H
    clear H
    go_wp2
    go_meet
    case rel => exact ⟨_, (t157), (by first | rfl | (simp; done) | (simp [*]; done) | (simp [bne_nil_]; done)), H', ⟨by first | omega | exact Nat.le_refl _⟩, by repeat (first | exact Drawn0.refl _ | apply Drawn0.step)⟩
  · replace c6 := Bool.eq_false_iff.mpr c6
    subst c6
    have H1 : (spec_pageOne.j0 k a0 a1 false t157 false) = some r := by rw [if_neg (show ¬ (false = true) by decide)] at H; exact H
    clear H
    have H := H1
    clear H1
    have H' := Aside0.mk H
    clear H
    go_wp2
    go_meet
    case rel => exact ⟨_, (false), (by first | rfl | (simp; done) | (simp [*]; done) | (simp [bne_nil_]; done)), H', ⟨by first | omega | exact Nat.le_refl _⟩, by repeat (first | exact Drawn0.refl _ | apply Drawn0.step)⟩
 case rest =>
  clear HC5
  try clear p2
  try clear c4
  try clear c5
  try clear c6
  obtain ⟨kq, x11_4, rfl, HA, HJ4, ⟨mc4, rfl⟩⟩ := hcut
  cases kq with
  | zero => exact absurd HA.out (by simp [spec_pageOne.j0])
  | succ kj4 =>
   have H := HA.out
   clear HA
   simp only [spec_pageOne.j0] at H
   by_cases c7 : x11_4 = true
   · subst c7
     have H1 : ((spec_orderNumbers.f kj4 a0 a1).bind fun t158 => (some t158)) = some r := by rw [if_pos rfl] at H; exact H
     clear H
     have H := H1
     clear H1
     replace H := Option.bind_eq_some_iff.mp H
     obtain ⟨t158, A80, H⟩ := H
     replace H : (some t158) = some r := H
     have A8 := Aside0.mk A80
     clear A80
     obtain rfl := Option.some.inj H
     go_wp2_with (first | ((with_reducible refine gate_callee (f := 64) rfl ?_); refine goesL_ (some 18) rfl rfl Tryz.func64 (by kernel_rfl) rfl #[.string a0, .string a1] rfl (by (try simp only [List.map_toArray, List.map_cons, List.map_nil]); first | done | rfl | (simp only [List.length_drop, List.length_take]; rfl)) ?_; (with_reducible refine (spec_orderNumbers.calls kj4 a0 a1 t158 _ A8.out).mono ?_); rintro e w' ⟨rfl, ⟨nd, rfl⟩⟩; refine ⟨_, rfl, ?_⟩))
     go_ret
     exact ⟨by first | rfl | (simp; done) | (simp [*]; done) | (simp [bne_nil_]; done), by repeat (first | exact Drawn0.refl _ | apply Drawn0.step)⟩
   · replace c7 := Bool.eq_false_iff.mpr c7
     subst c7
     have H1 : (if t156 = true then (some (-1)) else (if t157 = true then (some 1) else ((Giv.spec_order.f a0 a1).bind fun t159 => (some t159)))) = some r := by rw [if_neg (show ¬ (false = true) by decide)] at H; exact H
     clear H
     have H := H1
     clear H1
     by_cases c9 : t156 = true
     · subst c9
       have H1 : (some (-1)) = some r := by rw [if_pos rfl] at H; exact H
       clear H
       have H := H1
       clear H1
       obtain rfl := Option.some.inj H
       go_wp2
       go_ret
       exact ⟨by first | rfl | (simp; done) | (simp [*]; done) | (simp [bne_nil_]; done), by repeat (first | exact Drawn0.refl _ | apply Drawn0.step)⟩
     · replace c9 := Bool.eq_false_iff.mpr c9
       subst c9
       have H1 : (if t157 = true then (some 1) else ((Giv.spec_order.f a0 a1).bind fun t159 => (some t159))) = some r := by rw [if_neg (show ¬ (false = true) by decide)] at H; exact H
       clear H
       have H := H1
       clear H1
       by_cases c10 : t157 = true
       · subst c10
         have H1 : (some 1) = some r := by rw [if_pos rfl] at H; exact H
         clear H
         have H := H1
         clear H1
         obtain rfl := Option.some.inj H
         go_wp2
         go_ret
         exact ⟨by first | rfl | (simp; done) | (simp [*]; done) | (simp [bne_nil_]; done), by repeat (first | exact Drawn0.refl _ | apply Drawn0.step)⟩
       · replace c10 := Bool.eq_false_iff.mpr c10
         subst c10
         have H1 : ((Giv.spec_order.f a0 a1).bind fun t159 => (some t159)) = some r := by rw [if_neg (show ¬ (false = true) by decide)] at H; exact H
         clear H
         have H := H1
         clear H1
         replace H := Option.bind_eq_some_iff.mp H
         obtain ⟨t159, A110, H⟩ := H
         replace H : (some t159) = some r := H
         have A11 := Aside0.mk A110
         clear A110
         obtain rfl := Option.some.inj H
         go_wp2_with (first | ((with_reducible refine gate_callee (f := 49) rfl ?_); refine goesL_ (some 25) rfl rfl Tryz.func49 (by kernel_rfl) rfl #[.string a0, .string a1] rfl (by (try simp only [List.map_toArray, List.map_cons, List.map_nil]); first | done | rfl | (simp only [List.length_drop, List.length_take]; rfl)) ?_; (with_reducible refine (Giv.spec_order.calls a0 a1 t159 _ A11.out).mono ?_); rintro e w' ⟨rfl, ⟨nd, rfl⟩⟩; refine ⟨_, rfl, ?_⟩))
         go_ret
         exact ⟨by first | rfl | (simp; done) | (simp [*]; done) | (simp [bne_nil_]; done), by repeat (first | exact Drawn0.refl _ | apply Drawn0.step)⟩

end Go.Proofs.YtdpeadckejhloaaGreatDoor.QH
