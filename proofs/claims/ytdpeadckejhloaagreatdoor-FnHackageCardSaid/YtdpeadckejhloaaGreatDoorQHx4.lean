-- Written by a working copy of the kit's print program, turned at a few places by wip/tool/mkprint.py. Lean checks it.
import Derived.Test.YtdpeadckejhloaaGreatDoorWTab
import Derived.Test.YtdpeadckejhloaaGreatDoorQHx0
import Derived.Test.YtdpeadckejhloaaGreatDoorQHx3
namespace Go.Proofs.YtdpeadckejhloaaGreatDoor.QH
open Go.RowKit Go.Proofs.YtdpeadckejhloaaGreatDoorW.PrintWords Go.Proofs.YtdpeadckejhloaaGreatDoorW.PrintLast Go.Proofs.YtdpeadckejhloaaGreatDoorW.PrintMore
attribute [local go_sem] max2_int min2_int max_two min_two max_three min_three max_four min_four   -- for this text's walks alone
set_option linter.unusedVariables false
set_option linter.unusedSimpArgs false

/-! ### spec_Identifiers: function 40 -/
mutual
def spec_Identifiers.l0 : Nat → List ByteArray → List ByteArray → Int → Option (Int)
 | 0, _, _, _ => none
 | k + 1, x0, x1, x5 => if x5 < (x0.length : Int) then (spec_Identifiers.j1 k x0 x1 x5 (decide (x5 < (x1.length : Int)))) else (spec_Identifiers.j1 k x0 x1 x5 false)
def spec_Identifiers.j1 : Nat → List ByteArray → List ByteArray → Int → Bool → Option (Int)
 | 0, _, _, _, _ => none
 | k + 1, x0, x1, x5, x16 => if x16 = true then (if 0 ≤ x5 then (if x5 < (x0.length : Int) then (if x5 < (x1.length : Int) then ((spec_pageOne.f k (rdOf ByteArray.empty x0 x5) (rdOf ByteArray.empty x1 x5)).bind fun t162 => (if t162 = 0 then (spec_Identifiers.l0 k x0 x1 (wrap64 (x5 + 1))) else (some t162))) else (none)) else (none)) else (none)) else ((spec_orderInts.f (x0.length : Int) (x1.length : Int)).bind fun t163 => (some t163))
end
def spec_Identifiers.f (k : Nat) (l0 : List ByteArray) (l1 : List ByteArray) : Option (Int) := spec_Identifiers.l0 k l0 l1 0
theorem spec_Identifiers.mono_l : ∀ k, (∀ y0 y1 y2, LeO (spec_Identifiers.l0 k y0 y1 y2) (spec_Identifiers.l0 (k + 1) y0 y1 y2)) ∧ (∀ y0 y1 y2 y3, LeO (spec_Identifiers.j1 k y0 y1 y2 y3) (spec_Identifiers.j1 (k + 1) y0 y1 y2 y3))
 | 0 => ⟨fun _ _ _ r h => by simp [spec_Identifiers.l0] at h, fun _ _ _ _ r h => by simp [spec_Identifiers.j1] at h⟩
 | k + 1 => by
  obtain ⟨ih0, ih1⟩ := spec_Identifiers.mono_l k
  refine ⟨?_, ?_⟩
  · intro y0 y1 y2
    unfold spec_Identifiers.l0
    repeat' first
    | (with_reducible exact ih0 _ _ _)
    | (with_reducible exact ih1 _ _ _ _)
    | (with_reducible exact spec_pageOne.mono _ _ _)
    | (with_reducible exact LeO.refl _)
    | (with_reducible exact LeO.none _)
    | (with_reducible refine LeO.ite ?_ ?_)
    | (with_reducible refine LeO.bind ?_ (fun _ => ?_))
    | exact ih0 _ _ _
    | exact ih1 _ _ _ _
    | exact spec_pageOne.mono _ _ _
    | exact LeO.none _
    | refine LeO.ite ?_ ?_
    | refine LeO.bind ?_ (fun _ => ?_)
  · intro y0 y1 y2 y3
    unfold spec_Identifiers.j1
    repeat' first
    | (with_reducible exact ih0 _ _ _)
    | (with_reducible exact ih1 _ _ _ _)
    | (with_reducible exact spec_pageOne.mono _ _ _)
    | (with_reducible exact LeO.refl _)
    | (with_reducible exact LeO.none _)
    | (with_reducible refine LeO.ite ?_ ?_)
    | (with_reducible refine LeO.bind ?_ (fun _ => ?_))
    | exact ih0 _ _ _
    | exact ih1 _ _ _ _
    | exact spec_pageOne.mono _ _ _
    | exact LeO.none _
    | refine LeO.ite ?_ ?_
    | refine LeO.bind ?_ (fun _ => ?_)
theorem spec_Identifiers.mono : ∀ a0 a1 k, LeO (spec_Identifiers.f k a0 a1) (spec_Identifiers.f (k + 1) a0 a1) := by
 intro a0 a1 k
 obtain ⟨ih0, ih1⟩ := spec_Identifiers.mono_l k
 unfold spec_Identifiers.f
 repeat' first
  | (with_reducible exact ih0 _ _ _)
  | (with_reducible exact ih1 _ _ _ _)
  | (with_reducible exact spec_pageOne.mono _ _ _)
  | (with_reducible exact LeO.refl _)
  | (with_reducible exact LeO.none _)
  | (with_reducible refine LeO.ite ?_ ?_)
  | (with_reducible refine LeO.bind ?_ (fun _ => ?_))
  | exact ih0 _ _ _
  | exact ih1 _ _ _ _
  | exact spec_pageOne.mono _ _ _
  | exact LeO.none _
  | refine LeO.ite ?_ ?_
  | refine LeO.bind ?_ (fun _ => ?_)
set_option maxHeartbeats 8000000 in
set_option maxRecDepth 100000 in
theorem spec_Identifiers.calls (k : Nat) (A0 : Option Addr) (c0 : Nat) (l0 : List ByteArray) (A1 : Option Addr) (c1 : Nat) (l1 : List ByteArray) (r : Int) (w : World) (hr0 : Kd.C Kd.string w A0 l0.length l0) (hc0 : l0.length ≤ c0) (hr1 : Kd.C Kd.string w A1 l1.length l1) (hc1 : l1.length ≤ c1) (h : spec_Identifiers.f k l0 l1 = some r) :
 Calls Tryz.prog 40 #[.slice A0 l0.length c0, .slice A1 l1.length c1] w fun e w' => e = .returned (.int .i64 r) ∧ Drawn0 w w' := by
 have HR0 := Aside0.mk hr0
 have HC0 := Aside0.mk hc0
 clear hr0 hc0
 have HR1 := Aside0.mk hr1
 have HC1 := Aside0.mk hc1
 clear hr1 hc1
 have H : (spec_Identifiers.l0 k l0 l1 0) = some r := h
 clear h
 have H' := Aside0.mk H
 clear H
 go_enter Tryz.func40, Tryz.ntmps40
 go_wp2
 repeat (go_quiet (fail); try go_wp2)
 go_loopg [5] k (fun kq v5 w' => ∃ (x5_1 : Int), v5 = .int .i64 x5_1 ∧ Aside0 (spec_Identifiers.l0 kq l0 l1 x5_1 = some r) ∧ Aside0 (kq ≤ k) ∧ Drawn0 w w')
 case atStart => exact ⟨(0), (by first | rfl | (simp; done) | (simp [*]; done) | (simp [bne_nil_]; done)), H', ⟨Nat.le_refl _⟩, by repeat (first | exact Drawn0.refl _ | apply Drawn0.step)⟩
 case round =>
  clear H'
  try clear c1
  try clear p2
  obtain ⟨x5_1, rfl, HA, HK1, ⟨m1, rfl⟩⟩ := hrel
  cases gk with
  | zero => exact absurd HA.out (by simp [spec_Identifiers.l0])
  | succ k1 =>
   have H := HA.out
   clear HA
   simp only [spec_Identifiers.l0] at H
   have HC3 := Aside0.mk H
   clear H
   go_upto_region 2 with (fail)
   repeat (go_quiet (fail); go_upto_region 2 with (fail))
   go_cut [16] (fun v16 wc => ∃ (kq : Nat) (x16_2 : Bool), v16 = .bool x16_2 ∧ Aside0 (spec_Identifiers.j1 kq l0 l1 x5_1 x16_2 = some r) ∧ Aside0 (kq ≤ k1) ∧ Drawn0 w wc)
   case first =>
    have H := HC3.out
    clear HC3
    by_cases c4 : x5_1 < (l0.length : Int)
    · rw [if_pos c4] at H
      have c4b0 : decide (x5_1 < (l0.length : Int)) = true := decide_eq_true c4
      clear c4
      (first | rw [c4b0] | (simp only [i64_w, i32_w]; rw [c4b0]) | skip)
      have H' := Aside0.mk H
      clear H
      go_wp2
      repeat (go_quiet (fail); try go_wp2)
      go_meet
      case rel => exact ⟨_, (decide (x5_1 < (l1.length : Int))), (by first | rfl | (simp; done) | (simp [*]; done) | (simp [bne_nil_]; done)), H', ⟨by have := HK1.out; first | omega | exact Nat.le_refl _⟩, by repeat (first | exact Drawn0.refl _ | apply Drawn0.step)⟩
    · rw [if_neg c4] at H
      have c4b0 : decide (x5_1 < (l0.length : Int)) = false := decide_eq_false c4
      clear c4
      (first | rw [c4b0] | (simp only [i64_w, i32_w]; rw [c4b0]) | skip)
      have H' := Aside0.mk H
      clear H
      go_wp2
      repeat (go_quiet (fail); try go_wp2)
      go_meet
      case rel => exact ⟨_, (false), (by first | rfl | (simp; done) | (simp [*]; done) | (simp [bne_nil_]; done)), H', ⟨by have := HK1.out; first | omega | exact Nat.le_refl _⟩, by repeat (first | exact Drawn0.refl _ | apply Drawn0.step)⟩
   case rest =>
    clear HC3
    try clear c1
    try clear p2
    try clear c4
    try clear c4b0
    try clear p2
    obtain ⟨kq, x16_2, rfl, HA, HJ2, ⟨mc2, rfl⟩⟩ := hcut
    cases kq with
    | zero => exact absurd HA.out (by simp [spec_Identifiers.j1])
    | succ kj2 =>
     have H := HA.out
     clear HA
     simp only [spec_Identifiers.j1] at H
     by_cases c5 : x16_2 = true
     · subst c5
       have H1 : (if 0 ≤ x5_1 then (if x5_1 < (l0.length : Int) then (if x5_1 < (l1.length : Int) then ((spec_pageOne.f kj2 (rdOf ByteArray.empty l0 x5_1) (rdOf ByteArray.empty l1 x5_1)).bind fun t162 => (if t162 = 0 then (spec_Identifiers.l0 kj2 l0 l1 (wrap64 (x5_1 + 1))) else (some t162))) else (none)) else (none)) else (none)) = some r := by rw [if_pos rfl] at H; exact H
       clear H
       have H := H1
       clear H1
       by_cases c6 : 0 ≤ x5_1
       · rw [if_pos c6] at H
         have c6b0 : decide (0 ≤ x5_1) = true := decide_eq_true c6
         clear c6
         by_cases c7 : x5_1 < (l0.length : Int)
         · rw [if_pos c7] at H
           have c7b0 : decide (x5_1 < (l0.length : Int)) = true := decide_eq_true c7
           clear c7
           by_cases c8 : x5_1 < (l1.length : Int)
           · rw [if_pos c8] at H
             have c8b0 : decide (x5_1 < (l1.length : Int)) = true := decide_eq_true c8
             clear c8
             replace H := Option.bind_eq_some_iff.mp H
             obtain ⟨t162, A90, H⟩ := H
             replace H : (if t162 = 0 then (spec_Identifiers.l0 kj2 l0 l1 (wrap64 (x5_1 + 1))) else (some t162)) = some r := H
             have A9 := Aside0.mk A90
             clear A90
             by_cases c10 : t162 = 0
             · rw [if_pos c10] at H
               have c10b0 : (t162 == 0) = true := beq_iff_eq.mpr c10
               have c10b1 : (t162 != 0) = false := bne_eq_false_iff_eq.mpr c10
               clear c10
               have H' := Aside0.mk H
               clear H
               have p160 : 0 ≤ (x5_1 : Int) := of_decide_eq_true (by first | (with_reducible assumption) | assumption)
               have q160 : x5_1 < (l0.length : Int) := of_decide_eq_true (by first | (with_reducible assumption) | assumption)
               obtain ⟨ad160, e160, hx160_0⟩ := Kd.at_string HR0.out x5_1 p160 q160
               cases e160
               replace p160 := eq_true p160
               replace q160 := eq_true q160
               have p161 : 0 ≤ (x5_1 : Int) := of_decide_eq_true (by first | (with_reducible assumption) | assumption)
               have q161 : x5_1 < (l1.length : Int) := of_decide_eq_true (by first | (with_reducible assumption) | assumption)
               obtain ⟨ad161, e161, hx161_0⟩ := Kd.at_string HR1.out x5_1 p161 q161
               cases e161
               replace p161 := eq_true p161
               replace q161 := eq_true q161
               go_wp2_with (first | (go_at_call 50; (with_reducible refine (spec_pageOne.calls kj2 (rdOf ByteArray.empty l0 x5_1) (rdOf ByteArray.empty l1 x5_1) t162 _ A9.out).mono ?_); rintro e w' ⟨rfl, ⟨nd, rfl⟩⟩; (try first | exact ⟨rfl, _, World.drewN_drewN _ _ _⟩ | exact ⟨rfl, _, Eq.trans (World.drewN_drewN _ _ _) (congrArg (World.drewN _) (Nat.add_assoc _ _ _))⟩)))
               repeat (go_quiet (first | (go_at_call 50; (with_reducible refine (spec_pageOne.calls kj2 (rdOf ByteArray.empty l0 x5_1) (rdOf ByteArray.empty l1 x5_1) t162 _ A9.out).mono ?_); rintro e w' ⟨rfl, ⟨nd, rfl⟩⟩; (try first | exact ⟨rfl, _, World.drewN_drewN _ _ _⟩ | exact ⟨rfl, _, Eq.trans (World.drewN_drewN _ _ _) (congrArg (World.drewN _) (Nat.add_assoc _ _ _))⟩))); try go_wp2_with (first | (go_at_call 50; (with_reducible refine (spec_pageOne.calls kj2 (rdOf ByteArray.empty l0 x5_1) (rdOf ByteArray.empty l1 x5_1) t162 _ A9.out).mono ?_); rintro e w' ⟨rfl, ⟨nd, rfl⟩⟩; (try first | exact ⟨rfl, _, World.drewN_drewN _ _ _⟩ | exact ⟨rfl, _, Eq.trans (World.drewN_drewN _ _ _) (congrArg (World.drewN _) (Nat.add_assoc _ _ _))⟩))))
               go_roundg kj2
               case measure => have := HK1.out; have := HJ2.out; omega
               case rel => exact ⟨(wrap64 (x5_1 + 1)), (by first | rfl | (simp; done) | (simp [*]; done) | (simp [bne_nil_]; done)), H', ⟨by have := HK1.out; have := HJ2.out; omega⟩, by repeat (first | exact Drawn0.refl _ | apply Drawn0.step)⟩
             · rw [if_neg c10] at H
               have c10b0 : (t162 == 0) = false := beq_eq_false_iff_ne.mpr c10
               have c10b1 : (t162 != 0) = true := bne_iff_ne.mpr c10
               obtain rfl := Option.some.inj H
               have p160 : 0 ≤ (x5_1 : Int) := of_decide_eq_true (by first | (with_reducible assumption) | assumption)
               have q160 : x5_1 < (l0.length : Int) := of_decide_eq_true (by first | (with_reducible assumption) | assumption)
               obtain ⟨ad160, e160, hx160_0⟩ := Kd.at_string HR0.out x5_1 p160 q160
               cases e160
               replace p160 := eq_true p160
               replace q160 := eq_true q160
               have p161 : 0 ≤ (x5_1 : Int) := of_decide_eq_true (by first | (with_reducible assumption) | assumption)
               have q161 : x5_1 < (l1.length : Int) := of_decide_eq_true (by first | (with_reducible assumption) | assumption)
               obtain ⟨ad161, e161, hx161_0⟩ := Kd.at_string HR1.out x5_1 p161 q161
               cases e161
               replace p161 := eq_true p161
               replace q161 := eq_true q161
               go_wp2_with (first | (go_at_call 50; (with_reducible refine (spec_pageOne.calls kj2 (rdOf ByteArray.empty l0 x5_1) (rdOf ByteArray.empty l1 x5_1) t162 _ A9.out).mono ?_); rintro e w' ⟨rfl, ⟨nd, rfl⟩⟩; (try first | exact ⟨rfl, _, World.drewN_drewN _ _ _⟩ | exact ⟨rfl, _, Eq.trans (World.drewN_drewN _ _ _) (congrArg (World.drewN _) (Nat.add_assoc _ _ _))⟩)))
               repeat (go_quiet (first | (go_at_call 50; (with_reducible refine (spec_pageOne.calls kj2 (rdOf ByteArray.empty l0 x5_1) (rdOf ByteArray.empty l1 x5_1) t162 _ A9.out).mono ?_); rintro e w' ⟨rfl, ⟨nd, rfl⟩⟩; (try first | exact ⟨rfl, _, World.drewN_drewN _ _ _⟩ | exact ⟨rfl, _, Eq.trans (World.drewN_drewN _ _ _) (congrArg (World.drewN _) (Nat.add_assoc _ _ _))⟩))); try go_wp2_with (first | (go_at_call 50; (with_reducible refine (spec_pageOne.calls kj2 (rdOf ByteArray.empty l0 x5_1) (rdOf ByteArray.empty l1 x5_1) t162 _ A9.out).mono ?_); rintro e w' ⟨rfl, ⟨nd, rfl⟩⟩; (try first | exact ⟨rfl, _, World.drewN_drewN _ _ _⟩ | exact ⟨rfl, _, Eq.trans (World.drewN_drewN _ _ _) (congrArg (World.drewN _) (Nat.add_assoc _ _ _))⟩))))
               go_ret
               exact ⟨by first | rfl | (simp; done) | (simp [*]; done) | (simp [bne_nil_]; done), by repeat (first | exact Drawn0.refl _ | apply Drawn0.step)⟩
           · rw [if_neg c8] at H
             exact absurd H (by simp)
         · rw [if_neg c7] at H
           exact absurd H (by simp)
       · rw [if_neg c6] at H
         exact absurd H (by simp)
     · replace c5 := Bool.eq_false_iff.mpr c5
       subst c5
       have H1 : ((spec_orderInts.f (l0.length : Int) (l1.length : Int)).bind fun t163 => (some t163)) = some r := by rw [if_neg (show ¬ (false = true) by decide)] at H; exact H
       clear H
       have H := H1
       clear H1
       replace H := Option.bind_eq_some_iff.mp H
       obtain ⟨t163, A110, H⟩ := H
       replace H : (some t163) = some r := H
       have A11 := Aside0.mk A110
       clear A110
       obtain rfl := Option.some.inj H
       go_wp2_with (first | (go_at_call 21; (with_reducible refine (spec_orderInts.calls (l0.length : Int) (l1.length : Int) t163 _ A11.out).mono ?_); rintro e w' ⟨rfl, ⟨nd, rfl⟩⟩; (try first | exact ⟨rfl, _, World.drewN_drewN _ _ _⟩ | exact ⟨rfl, _, Eq.trans (World.drewN_drewN _ _ _) (congrArg (World.drewN _) (Nat.add_assoc _ _ _))⟩)))
       repeat (go_quiet (first | (go_at_call 21; (with_reducible refine (spec_orderInts.calls (l0.length : Int) (l1.length : Int) t163 _ A11.out).mono ?_); rintro e w' ⟨rfl, ⟨nd, rfl⟩⟩; (try first | exact ⟨rfl, _, World.drewN_drewN _ _ _⟩ | exact ⟨rfl, _, Eq.trans (World.drewN_drewN _ _ _) (congrArg (World.drewN _) (Nat.add_assoc _ _ _))⟩))); try go_wp2_with (first | (go_at_call 21; (with_reducible refine (spec_orderInts.calls (l0.length : Int) (l1.length : Int) t163 _ A11.out).mono ?_); rintro e w' ⟨rfl, ⟨nd, rfl⟩⟩; (try first | exact ⟨rfl, _, World.drewN_drewN _ _ _⟩ | exact ⟨rfl, _, Eq.trans (World.drewN_drewN _ _ _) (congrArg (World.drewN _) (Nat.add_assoc _ _ _))⟩))))
       go_ret
       exact ⟨by first | rfl | (simp; done) | (simp [*]; done) | (simp [bne_nil_]; done), by repeat (first | exact Drawn0.refl _ | apply Drawn0.step)⟩

/-! ### spec_Builds: function 30 -/
def spec_Builds.j0 : Nat → List ByteArray → List ByteArray → Bool → Option (Int)
 | 0, _, _, _ => none
 | k + 1, x5, x6, x18 => if x18 = true then ((spec_orderInts.f (mn (x6.length : Int) 1) (mn (x5.length : Int) 1)).bind fun t170 => (some t170)) else ((spec_Identifiers.f k x5 x6).bind fun t171 => (some t171))
def spec_Builds.f (k : Nat) (a0 : ByteArray) (a1 : ByteArray) : Option (Int) := (Giv.spec_likeIdentifiers.f a0).bind fun t164 => ((Giv.spec_likeIdentifiers.f a1).bind fun t167 => (if (t164.length : Int) = 0 then (spec_Builds.j0 k t164 t167 true) else (spec_Builds.j0 k t164 t167 ((t167.length : Int) == 0))))
theorem spec_Builds.mono_l : ∀ k, (∀ y0 y1 y2, LeO (spec_Builds.j0 k y0 y1 y2) (spec_Builds.j0 (k + 1) y0 y1 y2))
 | 0 => fun _ _ _ r h => by simp [spec_Builds.j0] at h
 | k + 1 => by
  have ih0 := spec_Builds.mono_l k
  · intro y0 y1 y2
    unfold spec_Builds.j0
    repeat' first
    | (with_reducible exact ih0 _ _ _)
    | (with_reducible exact spec_Identifiers.mono _ _ _)
    | (with_reducible exact LeO.refl _)
    | (with_reducible exact LeO.none _)
    | (with_reducible refine LeO.ite ?_ ?_)
    | (with_reducible refine LeO.bind ?_ (fun _ => ?_))
    | exact ih0 _ _ _
    | exact spec_Identifiers.mono _ _ _
    | exact LeO.none _
    | refine LeO.ite ?_ ?_
    | refine LeO.bind ?_ (fun _ => ?_)
theorem spec_Builds.mono : ∀ a0 a1 k, LeO (spec_Builds.f k a0 a1) (spec_Builds.f (k + 1) a0 a1) := by
 intro a0 a1 k
 have ih0 := spec_Builds.mono_l k
 unfold spec_Builds.f
 repeat' first
  | (with_reducible exact ih0 _ _ _)
  | (with_reducible exact spec_Identifiers.mono _ _ _)
  | (with_reducible exact LeO.refl _)
  | (with_reducible exact LeO.none _)
  | (with_reducible refine LeO.ite ?_ ?_)
  | (with_reducible refine LeO.bind ?_ (fun _ => ?_))
  | exact ih0 _ _ _
  | exact spec_Identifiers.mono _ _ _
  | exact LeO.none _
  | refine LeO.ite ?_ ?_
  | refine LeO.bind ?_ (fun _ => ?_)
set_option maxHeartbeats 8000000 in
set_option maxRecDepth 100000 in
theorem spec_Builds.calls (k : Nat) (a0 : ByteArray) (a1 : ByteArray) (r : Int) (w : World) (h : spec_Builds.f k a0 a1 = some r) :
 Calls Tryz.prog 30 #[.string a0, .string a1] w fun e w' => e = .returned (.int .i64 r) ∧ Below w.heap.size w w' := by
 have HB := Aside0.mk (Below.refl w.heap.size w)
 have H : ((Giv.spec_likeIdentifiers.f a0).bind fun t164 => ((Giv.spec_likeIdentifiers.f a1).bind fun t167 => (if (t164.length : Int) = 0 then (spec_Builds.j0 k t164 t167 true) else (spec_Builds.j0 k t164 t167 ((t167.length : Int) == 0))))) = some r := h
 clear h
 replace H := Option.bind_eq_some_iff.mp H
 obtain ⟨t164, A30, H⟩ := H
 replace H : ((Giv.spec_likeIdentifiers.f a1).bind fun t167 => (if (t164.length : Int) = 0 then (spec_Builds.j0 k t164 t167 true) else (spec_Builds.j0 k t164 t167 ((t167.length : Int) == 0)))) = some r := H
 have A3 := Aside0.mk A30
 clear A30
 replace H := Option.bind_eq_some_iff.mp H
 obtain ⟨t167, A40, H⟩ := H
 replace H : (if (t164.length : Int) = 0 then (spec_Builds.j0 k t164 t167 true) else (spec_Builds.j0 k t164 t167 ((t167.length : Int) == 0))) = some r := H
 have A4 := Aside0.mk A40
 clear A40
 have HC5 := Aside0.mk H
 clear H
 go_enter Tryz.func30, Tryz.ntmps30
 go_upto_region 2 with (first | ((with_reducible refine gate_callee (f := 38) rfl ?_); refine goesL_ (some 8) rfl rfl Tryz.func38 (by kernel_rfl) rfl #[.string a0] rfl (by (try simp only [List.map_toArray, List.map_cons, List.map_nil]); first | done | rfl | (simp only [List.length_drop, List.length_take]; rfl)) ?_; (with_reducible refine (Giv.spec_likeIdentifiers.calls a0 t164 _ A3.out).mono ?_); rintro e w6 ⟨v165, rfl, ho0, hb⟩; refine ⟨_, rfl, ?_⟩; have n0_ := Aside0.mk (Kd.R_lower ho0 (below_size (by repeat (first | (with_reducible first | exact HB.out | apply below_alloc | apply pw_below_drewN | apply below_drew1) | exact HB.out)))); have n1_ := Aside0.mk (below_step (by repeat (first | (with_reducible first | exact HB.out | apply below_alloc | apply pw_below_drewN | apply below_drew1) | exact HB.out)) hb); clear HB; have HO166 := n0_; have HB := n1_; clear n0_ n1_; (try clear hb); (try clear hb2); (try clear hk); (try clear hi); (try clear ho0)) | ((with_reducible refine gate_callee (f := 38) rfl ?_); refine goesL_ (some 10) rfl rfl Tryz.func38 (by kernel_rfl) rfl #[.string a1] rfl (by (try simp only [List.map_toArray, List.map_cons, List.map_nil]); first | done | rfl | (simp only [List.length_drop, List.length_take]; rfl)) ?_; (with_reducible refine (Giv.spec_likeIdentifiers.calls a1 t167 _ A4.out).mono ?_); rintro e w7 ⟨v168, rfl, ho0, hb⟩; refine ⟨_, rfl, ?_⟩; have n0_ := Aside0.mk (Kd.R_elder' (by (with_reducible repeat (first | apply Kd.R_alloc | apply Kd.R_drewN | apply Kd.R_drew)); exact HO166.out) (Kd.R_base ho0) hb); have n1_ := Aside0.mk (Kd.R_lower (Kd.R_new' ho0 (Kd.R_lt (by (with_reducible repeat (first | apply Kd.R_alloc | apply Kd.R_drewN | apply Kd.R_drew)); exact HO166.out))) (below_size (by repeat (first | (with_reducible first | exact HB.out | apply below_alloc | apply pw_below_drewN | apply below_drew1) | exact HB.out)))); have n2_ := Aside0.mk (below_step (by repeat (first | (with_reducible first | exact HB.out | apply below_alloc | apply pw_below_drewN | apply below_drew1) | exact HB.out)) hb); clear HO166; clear HB; have HO166 := n0_; have HO169 := n1_; have HB := n2_; clear n0_ n1_ n2_; (try clear hb); (try clear hb2); (try clear hk); (try clear hi); (try clear ho0)))
 (try simp only [Act.put, List.setIfInBounds_toArray, List.set_cons_zero, List.set_cons_succ])
 go_cut [18] (fun v18 wc => ∃ (kq : Nat) (x18_4 : Bool), v18 = .bool x18_4 ∧ Aside0 (spec_Builds.j0 kq t164 t167 x18_4 = some r) ∧ Aside0 (kq ≤ k) ∧ Aside0 (Kd.R Kd.string 9 wc w.heap.size (fun k_ => some k_ ≠ (v168 : Value).ownBlock) v165 t164) ∧ Aside0 (Kd.R Kd.string 9 wc w.heap.size (fun k_ => some k_ ≠ (v165 : Value).ownBlock) v168 t167) ∧ Aside0 (Below w.heap.size w wc))
 case first =>
  have H := HC5.out
  clear HC5
  by_cases c8 : (t164.length : Int) = 0
  · rw [if_pos c8] at H
    have c8b0 : ((t164.length : Int) == 0) = true := beq_iff_eq.mpr c8
    have c8b1 : ((t164.length : Int) != 0) = false := bne_eq_false_iff_eq.mpr c8
    clear c8
    (first | rw [c8b0] | (simp only [i64_w, i32_w]; rw [c8b0]) | skip)
    have H' := Aside0.mk H
    clear H
    obtain ⟨Ao9, co9, eo9⟩ := Kd.R_slice HO166.out
    subst eo9
    go_wp2
    go_meet
    case rel => exact ⟨_, (true), (by first | rfl | (simp; done) | (simp [*]; done) | (simp [bne_nil_]; done)), H', ⟨by first | omega | exact Nat.le_refl _⟩, ⟨by (with_reducible repeat (first | apply Kd.R_alloc | apply Kd.R_drewN | apply Kd.R_drew)); exact Kd.R_mono HO166.out (fun _ hk => hk.2)⟩, ⟨by (with_reducible repeat (first | apply Kd.R_alloc | apply Kd.R_drewN | apply Kd.R_drew)); exact Kd.R_mono HO169.out (fun _ hk => hk.2)⟩, ⟨by repeat (first | (with_reducible first | exact HB.out | apply below_alloc | apply pw_below_drewN | apply below_drew1) | exact HB.out)⟩⟩
  · rw [if_neg c8] at H
    have c8b0 : ((t164.length : Int) == 0) = false := beq_eq_false_iff_ne.mpr c8
    have c8b1 : ((t164.length : Int) != 0) = true := bne_iff_ne.mpr c8
    have c8b2 : ¬ (t164 = []) := fun h_ => c8 (by rw [h_]; rfl)
    (first | rw [c8b0] | (simp only [i64_w, i32_w]; rw [c8b0]) | skip)
    have H' := Aside0.mk H
    clear H
    obtain ⟨Ao10, co10, eo10⟩ := Kd.R_slice HO166.out
    subst eo10
    obtain ⟨Ao11, co11, eo11⟩ := Kd.R_slice HO169.out
    subst eo11
    go_wp2
    go_meet
    case rel => exact ⟨_, (((t167.length : Int) == 0)), (by first | rfl | (simp; done) | (simp [*]; done) | (simp [bne_nil_]; done)), H', ⟨by first | omega | exact Nat.le_refl _⟩, ⟨by (with_reducible repeat (first | apply Kd.R_alloc | apply Kd.R_drewN | apply Kd.R_drew)); exact Kd.R_mono HO166.out (fun _ hk => hk.2)⟩, ⟨by (with_reducible repeat (first | apply Kd.R_alloc | apply Kd.R_drewN | apply Kd.R_drew)); exact Kd.R_mono HO169.out (fun _ hk => hk.2)⟩, ⟨by repeat (first | (with_reducible first | exact HB.out | apply below_alloc | apply pw_below_drewN | apply below_drew1) | exact HB.out)⟩⟩
 case rest =>
  clear HC5
  try clear p2
  try clear c3
  try clear c8
  try clear c8b0
  try clear c8b1
  try clear c8b2
  obtain ⟨kq, x18_4, rfl, HA, HJ4, HO_5, HO_6, HB⟩ := hcut
  cases kq with
  | zero => exact absurd HA.out (by simp [spec_Builds.j0])
  | succ kj4 =>
   have H := HA.out
   clear HA
   simp only [spec_Builds.j0] at H
   by_cases c12 : x18_4 = true
   · subst c12
     have H1 : ((spec_orderInts.f (mn (t167.length : Int) 1) (mn (t164.length : Int) 1)).bind fun t170 => (some t170)) = some r := by rw [if_pos rfl] at H; exact H
     clear H
     have H := H1
     clear H1
     obtain ⟨ji13, hji13⟩ : ∃ j_ : Int, (mn (t167.length : Int) 1) = j_ := ⟨_, rfl⟩
     replace H : ((spec_orderInts.f (ji13) (mn (t164.length : Int) 1)).bind fun t170 => (some t170)) = some r := by first | (rw [hji13] at H; exact H) | (simp only [hji13] at H ⊢; exact H)
     have hji13_ : (if 1 < (t167.length : Int) then 1 else (t167.length : Int)) = ji13 := hji13
     obtain ⟨ji14, hji14⟩ : ∃ j_ : Int, (mn (t164.length : Int) 1) = j_ := ⟨_, rfl⟩
     replace H : ((spec_orderInts.f (ji13) (ji14)).bind fun t170 => (some t170)) = some r := by first | (rw [hji14] at H; exact H) | (simp only [hji14] at H ⊢; exact H)
     have hji14_ : (if 1 < (t164.length : Int) then 1 else (t164.length : Int)) = ji14 := hji14
     replace H := Option.bind_eq_some_iff.mp H
     obtain ⟨t170, A150, H⟩ := H
     replace H : (some t170) = some r := H
     have A15 := Aside0.mk A150
     clear A150
     obtain rfl := Option.some.inj H
     obtain ⟨Ao16, co16, eo16⟩ := Kd.R_slice HO_6.out
     subst eo16
     obtain ⟨Ao17, co17, eo17⟩ := Kd.R_slice HO_5.out
     subst eo17
     go_wp2_with (first | ((with_reducible refine gate_callee (f := 21) rfl ?_); refine goesL_ (some 25) rfl rfl Tryz.func21 (by kernel_rfl) rfl #[.int .i64 ji13, .int .i64 ji14] rfl (by (try simp only [List.map_toArray, List.map_cons, List.map_nil]); first | done | (simp only [hji13, hji14]; rfl) | rfl | (simp only [List.length_drop, List.length_take]; rfl)) ?_; (with_reducible refine (spec_orderInts.calls ji13 ji14 t170 _ A15.out).mono ?_); rintro e w' ⟨rfl, ⟨nd, rfl⟩⟩; refine ⟨_, rfl, ?_⟩))
     go_ret
     exact ⟨by first | rfl | (simp [errW_none, errW_some] <;> rfl) | (simp only [← hji13, ← hji14]; first | rfl | (simp [errW_none, errW_some] <;> rfl)) | (simp [*, errW_none, errW_some] <;> rfl) | (simp [bne_nil_]; done), by repeat (first | (with_reducible first | exact HB.out | apply below_alloc | apply pw_below_drewN | apply below_drew1) | exact HB.out)⟩
   · replace c12 := Bool.eq_false_iff.mpr c12
     subst c12
     have H1 : ((spec_Identifiers.f kj4 t164 t167).bind fun t171 => (some t171)) = some r := by rw [if_neg (show ¬ (false = true) by decide)] at H; exact H
     clear H
     have H := H1
     clear H1
     replace H := Option.bind_eq_some_iff.mp H
     obtain ⟨t171, A180, H⟩ := H
     replace H : (some t171) = some r := H
     have A18 := Aside0.mk A180
     clear A180
     obtain rfl := Option.some.inj H
     obtain ⟨Ao19, co19, eo19⟩ := Kd.R_slice HO_5.out
     subst eo19
     obtain ⟨Ao20, co20, eo20⟩ := Kd.R_slice HO_6.out
     subst eo20
     go_wp2_with (first | ((with_reducible refine gate_callee (f := 40) rfl ?_); refine goesL_ (some 28) rfl rfl Tryz.func40 (by kernel_rfl) rfl #[.slice Ao19 t164.length co19, .slice Ao20 t167.length co20] rfl (by (try simp only [List.map_toArray, List.map_cons, List.map_nil]); first | done | rfl | (simp only [List.length_drop, List.length_take]; rfl)) ?_; (with_reducible refine (spec_Identifiers.calls kj4 _ _ t164 _ _ t167 t171 _ ?side1 ?side2 ?side3 ?side4 A18.out).mono ?_); (case side1 => repeat (first | exact (Kd.R_reads' HO_5.out).2.2 | (with_reducible refine Kd.C_alloc ?_ _) | (with_reducible refine Kd.C_drewN ?_ _) | (with_reducible refine Kd.C_drew ?_))); (case side2 => exact (Kd.R_reads' HO_5.out).2.1); (case side3 => repeat (first | exact (Kd.R_reads' HO_6.out).2.2 | (with_reducible refine Kd.C_alloc ?_ _) | (with_reducible refine Kd.C_drewN ?_ _) | (with_reducible refine Kd.C_drew ?_))); (case side4 => exact (Kd.R_reads' HO_6.out).2.1); rintro e w' ⟨rfl, ⟨nd, rfl⟩⟩; refine ⟨_, rfl, ?_⟩))
     go_ret
     exact ⟨by first | rfl | (simp [errW_none, errW_some] <;> rfl) | (simp [*, errW_none, errW_some] <;> rfl) | (simp [bne_nil_]; done), by repeat (first | (with_reducible first | exact HB.out | apply below_alloc | apply pw_below_drewN | apply below_drew1) | exact HB.out)⟩

/-! ### spec_likeOrder: function 17 -/
def spec_likeOrder.f (k : Nat) (a0_0 : Bool) (l0_1 : List (S55)) (a0_2 : ByteArray) (a0_3 : ByteArray) (a1_0 : Bool) (l1_1 : List (S55)) (a1_2 : ByteArray) (a1_3 : ByteArray) : Option (Int) := (spec_CompareNumbers.f k l0_1 l1_1).bind fun t174 => (if t174 = 0 then ((spec_Builds.f k a0_2 a1_2).bind fun t175 => (some t175)) else (some t174))
theorem spec_likeOrder.mono : ∀ a0 a1 a2 a3 a4 a5 a6 a7 k, LeO (spec_likeOrder.f k a0 a1 a2 a3 a4 a5 a6 a7) (spec_likeOrder.f (k + 1) a0 a1 a2 a3 a4 a5 a6 a7) := by
 intro a0 a1 a2 a3 a4 a5 a6 a7 k
 unfold spec_likeOrder.f
 repeat' first
  | (with_reducible exact spec_Builds.mono _ _ _)
  | (with_reducible exact spec_CompareNumbers.mono _ _ _)
  | (with_reducible exact LeO.refl _)
  | (with_reducible exact LeO.none _)
  | (with_reducible refine LeO.ite ?_ ?_)
  | (with_reducible refine LeO.bind ?_ (fun _ => ?_))
  | exact spec_Builds.mono _ _ _
  | exact spec_CompareNumbers.mono _ _ _
  | exact LeO.none _
  | refine LeO.ite ?_ ?_
  | refine LeO.bind ?_ (fun _ => ?_)
set_option maxHeartbeats 8000000 in
set_option maxRecDepth 100000 in
theorem spec_likeOrder.calls (k : Nat) (a0_0 : Bool) (A0_1 : Option Addr) (c0_1 : Nat) (l0_1 : List (S55)) (a0_2 : ByteArray) (a0_3 : ByteArray) (a1_0 : Bool) (A1_1 : Option Addr) (c1_1 : Nat) (l1_1 : List (S55)) (a1_2 : ByteArray) (a1_3 : ByteArray) (r : Int) (w : World) (hr0_1 : Kd.C k55 w A0_1 l0_1.length l0_1) (hc0_1 : l0_1.length ≤ c0_1) (hr1_1 : Kd.C k55 w A1_1 l1_1.length l1_1) (hc1_1 : l1_1.length ≤ c1_1) (h : spec_likeOrder.f k a0_0 l0_1 a0_2 a0_3 a1_0 l1_1 a1_2 a1_3 = some r) :
 Calls Tryz.prog 17 #[.agg #[.bool a0_0, .slice A0_1 l0_1.length c0_1, .string a0_2, .string a0_3], .agg #[.bool a1_0, .slice A1_1 l1_1.length c1_1, .string a1_2, .string a1_3]] w fun e w' => e = .returned (.int .i64 r) ∧ Below w.heap.size w w' := by
 have hu24 := Tryz.underlying24
 have HR0_1 := Aside0.mk hr0_1
 have HC0_1 := Aside0.mk hc0_1
 clear hr0_1 hc0_1
 have HR1_1 := Aside0.mk hr1_1
 have HC1_1 := Aside0.mk hc1_1
 clear hr1_1 hc1_1
 have HB := Aside0.mk (Below.refl w.heap.size w)
 have H : ((spec_CompareNumbers.f k l0_1 l1_1).bind fun t174 => (if t174 = 0 then ((spec_Builds.f k a0_2 a1_2).bind fun t175 => (some t175)) else (some t174))) = some r := h
 clear h
 replace H := Option.bind_eq_some_iff.mp H
 obtain ⟨t174, A30, H⟩ := H
 replace H : (if t174 = 0 then ((spec_Builds.f k a0_2 a1_2).bind fun t175 => (some t175)) else (some t174)) = some r := H
 have A3 := Aside0.mk A30
 clear A30
 by_cases c4 : t174 = 0
 · rw [if_pos c4] at H
   have c4b0 : (t174 == 0) = true := beq_iff_eq.mpr c4
   have c4b1 : (t174 != 0) = false := bne_eq_false_iff_eq.mpr c4
   clear c4
   replace H := Option.bind_eq_some_iff.mp H
   obtain ⟨t175, A50, H⟩ := H
   replace H : (some t175) = some r := H
   have A5 := Aside0.mk A50
   clear A50
   obtain rfl := Option.some.inj H
   go_enter Tryz.func17, Tryz.ntmps17
   go_wp2_with (first | ((with_reducible refine gate_dst (N := 2) rfl ?_); refine box_event ?hg (N := 2) ?hd (cs := #[.bool a0_0, .slice A0_1 l0_1.length c0_1, .string a0_2, .string a0_3]) (t := 24) ?hr ?_; (case hd => rfl); (case hg => rfl); (case hr => first | (go_simp; done) | (go_simp; rfl)); intro gb172 hg w6 hbox hb; have n0_ := Aside0.mk (below_step (by repeat (first | (with_reducible first | exact HB.out | apply below_alloc | apply pw_below_drewN | apply below_drew1) | exact HB.out)) hb); have n1_ := Aside0.mk (hbox); have n2_ := Aside0.mk ((by rw [hg]; exact (below_size (by repeat (first | (with_reducible first | exact HB.out | apply below_alloc | apply pw_below_drewN | apply below_drew1) | exact HB.out))) : w.heap.size ≤ gb172)); have n3_ := Aside0.mk ((by rw [hg]; exact (below_size (by repeat (first | (with_reducible first | exact HB.out | apply below_alloc | apply pw_below_drewN | apply below_drew1) | exact HB.out))) : w.heap.size ≤ gb172)); clear HB; have HB := n0_; have BK172 := n1_; have GW172 := n2_; have GE172 := n3_; clear n0_ n1_ n2_ n3_; clear hb hbox hg) | ((with_reducible refine gate_dst (N := 3) rfl ?_); refine box_event ?hg (N := 3) ?hd (cs := #[.bool a1_0, .slice A1_1 l1_1.length c1_1, .string a1_2, .string a1_3]) (t := 24) ?hr ?_; (case hd => rfl); (case hg => rfl); (case hr => first | (go_simp; done) | (go_simp; rfl)); intro gb173 hg w7 hbox hb; have n0_ := Aside0.mk (blk_below (g := gb172) (o := .cells #[.bool a0_0, .slice A0_1 l0_1.length c0_1, .string a0_2, .string a0_3] 24 (0, 0)) (by (with_reducible repeat (first | refine blk_drewN ?_ _ | refine blk_drew ?_ | refine blk_alloc ?_ _)); exact BK172.out) hb); have n1_ := Aside0.mk (below_step (by repeat (first | (with_reducible first | exact HB.out | apply below_alloc | apply pw_below_drewN | apply below_drew1 | refine below_set ?_ GE172.out) | exact HB.out)) hb); have n2_ := Aside0.mk (hbox); have n3_ := Aside0.mk ((by rw [hg]; exact (below_size (by repeat (first | (with_reducible first | exact HB.out | apply below_alloc | apply pw_below_drewN | apply below_drew1 | refine below_set ?_ GE172.out) | exact HB.out))) : w.heap.size ≤ gb173)); have n4_ := Aside0.mk ((by rw [hg]; exact (below_size (by repeat (first | (with_reducible first | exact HB.out | apply below_alloc | apply pw_below_drewN | apply below_drew1 | refine below_set ?_ GE172.out) | exact HB.out))) : w.heap.size ≤ gb173)); have n5_ := Aside0.mk ((by rw [hg]; exact Nat.ne_of_lt (blk_lt (g := gb172) (o := .cells #[.bool a0_0, .slice A0_1 l0_1.length c0_1, .string a0_2, .string a0_3] 24 (0, 0)) (by (with_reducible repeat (first | refine blk_drewN ?_ _ | refine blk_drew ?_ | refine blk_alloc ?_ _)); exact BK172.out)) : gb172 ≠ gb173)); have n6_ := Aside0.mk ((by rw [hg]; exact Nat.ne_of_gt (blk_lt (g := gb172) (o := .cells #[.bool a0_0, .slice A0_1 l0_1.length c0_1, .string a0_2, .string a0_3] 24 (0, 0)) (by (with_reducible repeat (first | refine blk_drewN ?_ _ | refine blk_drew ?_ | refine blk_alloc ?_ _)); exact BK172.out)) : gb173 ≠ gb172)); clear BK172; clear HB; have BK172 := n0_; have HB := n1_; have BK173 := n2_; have GW173 := n3_; have GE173 := n4_; have NB172_173 := n5_; have NB173_172 := n6_; clear n0_ n1_ n2_ n3_ n4_ n5_ n6_; clear hb hbox hg; have hnb8 := NB172_173.out; have hnc8 := NB173_172.out; have hcz9_0 : w7.cell? ⟨gb172, 0, none⟩ = some (.bool a0_0) := (blk_cell BK172.out 0).trans rfl; have hcz9_1 : w7.cell? ⟨gb172, 1, none⟩ = some (.slice A0_1 l0_1.length c0_1) := (blk_cell BK172.out 1).trans rfl; have hcz9_2 : w7.cell? ⟨gb172, 2, none⟩ = some (.string a0_2) := (blk_cell BK172.out 2).trans rfl; have hcz9_3 : w7.cell? ⟨gb172, 3, none⟩ = some (.string a0_3) := (blk_cell BK172.out 3).trans rfl; have hfz9_0 := blk_frozen BK172.out 0; have hfz9_1 := blk_frozen BK172.out 1; have hfz9_2 := blk_frozen BK172.out 2; have hfz9_3 := blk_frozen BK172.out 3; have hcz10_0 : w7.cell? ⟨gb173, 0, none⟩ = some (.bool a1_0) := (blk_cell BK173.out 0).trans rfl; have hcz10_1 : w7.cell? ⟨gb173, 1, none⟩ = some (.slice A1_1 l1_1.length c1_1) := (blk_cell BK173.out 1).trans rfl; have hcz10_2 : w7.cell? ⟨gb173, 2, none⟩ = some (.string a1_2) := (blk_cell BK173.out 2).trans rfl; have hcz10_3 : w7.cell? ⟨gb173, 3, none⟩ = some (.string a1_3) := (blk_cell BK173.out 3).trans rfl; have hfz10_0 := blk_frozen BK173.out 0; have hfz10_1 := blk_frozen BK173.out 1; have hfz10_2 := blk_frozen BK173.out 2; have hfz10_3 := blk_frozen BK173.out 3) | ((with_reducible refine gate_callee (f := 29) rfl ?_); refine goesL_ (some 10) rfl rfl Tryz.func29 (by kernel_rfl) rfl #[.slice A0_1 l0_1.length c0_1, .slice A1_1 l1_1.length c1_1] rfl (by (try simp only [List.map_toArray, List.map_cons, List.map_nil]); first | done | rfl | (simp only [List.length_drop, List.length_take]; rfl)) ?_; (with_reducible refine (spec_CompareNumbers.calls k _ _ l0_1 _ _ l1_1 t174 _ ?side1 ?side2 ?side3 ?side4 A3.out).mono ?_); (case side1 => repeat (first | exact (Kd.C_below HR0_1.out HB.out) | (with_reducible refine Kd.C_alloc ?_ _) | (with_reducible refine Kd.C_drewN ?_ _) | (with_reducible refine Kd.C_drew ?_))); (case side2 => exact HC0_1.out); (case side3 => repeat (first | exact (Kd.C_below HR1_1.out HB.out) | (with_reducible refine Kd.C_alloc ?_ _) | (with_reducible refine Kd.C_drewN ?_ _) | (with_reducible refine Kd.C_drew ?_))); (case side4 => exact HC1_1.out); rintro e w11 ⟨rfl, hb⟩; refine ⟨_, rfl, ?_⟩; have n0_ := Aside0.mk (blk_below (g := gb172) (o := .cells #[.bool a0_0, .slice A0_1 l0_1.length c0_1, .string a0_2, .string a0_3] 24 (0, 0)) (by (with_reducible repeat (first | refine blk_drewN ?_ _ | refine blk_drew ?_ | refine blk_alloc ?_ _)); exact BK172.out) hb); have n1_ := Aside0.mk (blk_below (g := gb173) (o := .cells #[.bool a1_0, .slice A1_1 l1_1.length c1_1, .string a1_2, .string a1_3] 24 (0, 0)) (by (with_reducible repeat (first | refine blk_drewN ?_ _ | refine blk_drew ?_ | refine blk_alloc ?_ _)); exact BK173.out) hb); have n2_ := Aside0.mk (below_step (by repeat (first | (with_reducible first | exact HB.out | apply below_alloc | apply pw_below_drewN | apply below_drew1 | refine below_set ?_ GE172.out | refine below_set ?_ GE173.out) | exact HB.out)) hb); clear BK172; clear BK173; clear HB; have BK172 := n0_; have BK173 := n1_; have HB := n2_; clear n0_ n1_ n2_; (try clear hb); (try clear hb2); (try clear hk); (try clear hi); have hcz12_0 : w11.cell? ⟨gb172, 0, none⟩ = some (.bool a0_0) := (blk_cell BK172.out 0).trans rfl; have hcz12_1 : w11.cell? ⟨gb172, 1, none⟩ = some (.slice A0_1 l0_1.length c0_1) := (blk_cell BK172.out 1).trans rfl; have hcz12_2 : w11.cell? ⟨gb172, 2, none⟩ = some (.string a0_2) := (blk_cell BK172.out 2).trans rfl; have hcz12_3 : w11.cell? ⟨gb172, 3, none⟩ = some (.string a0_3) := (blk_cell BK172.out 3).trans rfl; have hfz12_0 := blk_frozen BK172.out 0; have hfz12_1 := blk_frozen BK172.out 1; have hfz12_2 := blk_frozen BK172.out 2; have hfz12_3 := blk_frozen BK172.out 3; have hcz13_0 : w11.cell? ⟨gb173, 0, none⟩ = some (.bool a1_0) := (blk_cell BK173.out 0).trans rfl; have hcz13_1 : w11.cell? ⟨gb173, 1, none⟩ = some (.slice A1_1 l1_1.length c1_1) := (blk_cell BK173.out 1).trans rfl; have hcz13_2 : w11.cell? ⟨gb173, 2, none⟩ = some (.string a1_2) := (blk_cell BK173.out 2).trans rfl; have hcz13_3 : w11.cell? ⟨gb173, 3, none⟩ = some (.string a1_3) := (blk_cell BK173.out 3).trans rfl; have hfz13_0 := blk_frozen BK173.out 0; have hfz13_1 := blk_frozen BK173.out 1; have hfz13_2 := blk_frozen BK173.out 2; have hfz13_3 := blk_frozen BK173.out 3) | ((with_reducible refine gate_callee (f := 30) rfl ?_); refine goesL_ (some 18) rfl rfl Tryz.func30 (by kernel_rfl) rfl #[.string a0_2, .string a1_2] rfl (by (try simp only [List.map_toArray, List.map_cons, List.map_nil]); first | done | rfl | (simp only [List.length_drop, List.length_take]; rfl)) ?_; (with_reducible refine (spec_Builds.calls k a0_2 a1_2 t175 _ A5.out).mono ?_); rintro e w14 ⟨rfl, hb⟩; refine ⟨_, rfl, ?_⟩; have n0_ := Aside0.mk (blk_below (g := gb172) (o := .cells #[.bool a0_0, .slice A0_1 l0_1.length c0_1, .string a0_2, .string a0_3] 24 (0, 0)) (by (with_reducible repeat (first | refine blk_drewN ?_ _ | refine blk_drew ?_ | refine blk_alloc ?_ _)); exact BK172.out) hb); have n1_ := Aside0.mk (blk_below (g := gb173) (o := .cells #[.bool a1_0, .slice A1_1 l1_1.length c1_1, .string a1_2, .string a1_3] 24 (0, 0)) (by (with_reducible repeat (first | refine blk_drewN ?_ _ | refine blk_drew ?_ | refine blk_alloc ?_ _)); exact BK173.out) hb); have n2_ := Aside0.mk (below_step (by repeat (first | (with_reducible first | exact HB.out | apply below_alloc | apply pw_below_drewN | apply below_drew1 | refine below_set ?_ GE172.out | refine below_set ?_ GE173.out) | exact HB.out)) hb); clear BK172; clear BK173; clear HB; have BK172 := n0_; have BK173 := n1_; have HB := n2_; clear n0_ n1_ n2_; (try clear hb); (try clear hb2); (try clear hk); (try clear hi)))
   go_ret
   exact ⟨by first | rfl | (simp [errW_none, errW_some] <;> rfl) | (simp [*, errW_none, errW_some] <;> rfl) | (simp [bne_nil_]; done), by repeat (first | (with_reducible first | exact HB.out | apply below_alloc | apply pw_below_drewN | apply below_drew1 | refine below_set ?_ GE172.out | refine below_set ?_ GE173.out) | exact HB.out)⟩
 · rw [if_neg c4] at H
   have c4b0 : (t174 == 0) = false := beq_eq_false_iff_ne.mpr c4
   have c4b1 : (t174 != 0) = true := bne_iff_ne.mpr c4
   obtain rfl := Option.some.inj H
   go_enter Tryz.func17, Tryz.ntmps17
   go_wp2_with (first | ((with_reducible refine gate_dst (N := 2) rfl ?_); refine box_event ?hg (N := 2) ?hd (cs := #[.bool a0_0, .slice A0_1 l0_1.length c0_1, .string a0_2, .string a0_3]) (t := 24) ?hr ?_; (case hd => rfl); (case hg => rfl); (case hr => first | (go_simp; done) | (go_simp; rfl)); intro gb172 hg w15 hbox hb; have n0_ := Aside0.mk (below_step (by repeat (first | (with_reducible first | exact HB.out | apply below_alloc | apply pw_below_drewN | apply below_drew1) | exact HB.out)) hb); have n1_ := Aside0.mk (hbox); have n2_ := Aside0.mk ((by rw [hg]; exact (below_size (by repeat (first | (with_reducible first | exact HB.out | apply below_alloc | apply pw_below_drewN | apply below_drew1) | exact HB.out))) : w.heap.size ≤ gb172)); have n3_ := Aside0.mk ((by rw [hg]; exact (below_size (by repeat (first | (with_reducible first | exact HB.out | apply below_alloc | apply pw_below_drewN | apply below_drew1) | exact HB.out))) : w.heap.size ≤ gb172)); clear HB; have HB := n0_; have BK172 := n1_; have GW172 := n2_; have GE172 := n3_; clear n0_ n1_ n2_ n3_; clear hb hbox hg) | ((with_reducible refine gate_dst (N := 3) rfl ?_); refine box_event ?hg (N := 3) ?hd (cs := #[.bool a1_0, .slice A1_1 l1_1.length c1_1, .string a1_2, .string a1_3]) (t := 24) ?hr ?_; (case hd => rfl); (case hg => rfl); (case hr => first | (go_simp; done) | (go_simp; rfl)); intro gb173 hg w16 hbox hb; have n0_ := Aside0.mk (blk_below (g := gb172) (o := .cells #[.bool a0_0, .slice A0_1 l0_1.length c0_1, .string a0_2, .string a0_3] 24 (0, 0)) (by (with_reducible repeat (first | refine blk_drewN ?_ _ | refine blk_drew ?_ | refine blk_alloc ?_ _)); exact BK172.out) hb); have n1_ := Aside0.mk (below_step (by repeat (first | (with_reducible first | exact HB.out | apply below_alloc | apply pw_below_drewN | apply below_drew1 | refine below_set ?_ GE172.out) | exact HB.out)) hb); have n2_ := Aside0.mk (hbox); have n3_ := Aside0.mk ((by rw [hg]; exact (below_size (by repeat (first | (with_reducible first | exact HB.out | apply below_alloc | apply pw_below_drewN | apply below_drew1 | refine below_set ?_ GE172.out) | exact HB.out))) : w.heap.size ≤ gb173)); have n4_ := Aside0.mk ((by rw [hg]; exact (below_size (by repeat (first | (with_reducible first | exact HB.out | apply below_alloc | apply pw_below_drewN | apply below_drew1 | refine below_set ?_ GE172.out) | exact HB.out))) : w.heap.size ≤ gb173)); have n5_ := Aside0.mk ((by rw [hg]; exact Nat.ne_of_lt (blk_lt (g := gb172) (o := .cells #[.bool a0_0, .slice A0_1 l0_1.length c0_1, .string a0_2, .string a0_3] 24 (0, 0)) (by (with_reducible repeat (first | refine blk_drewN ?_ _ | refine blk_drew ?_ | refine blk_alloc ?_ _)); exact BK172.out)) : gb172 ≠ gb173)); have n6_ := Aside0.mk ((by rw [hg]; exact Nat.ne_of_gt (blk_lt (g := gb172) (o := .cells #[.bool a0_0, .slice A0_1 l0_1.length c0_1, .string a0_2, .string a0_3] 24 (0, 0)) (by (with_reducible repeat (first | refine blk_drewN ?_ _ | refine blk_drew ?_ | refine blk_alloc ?_ _)); exact BK172.out)) : gb173 ≠ gb172)); clear BK172; clear HB; have BK172 := n0_; have HB := n1_; have BK173 := n2_; have GW173 := n3_; have GE173 := n4_; have NB172_173 := n5_; have NB173_172 := n6_; clear n0_ n1_ n2_ n3_ n4_ n5_ n6_; clear hb hbox hg; have hnb17 := NB172_173.out; have hnc17 := NB173_172.out; have hcz18_0 : w16.cell? ⟨gb172, 0, none⟩ = some (.bool a0_0) := (blk_cell BK172.out 0).trans rfl; have hcz18_1 : w16.cell? ⟨gb172, 1, none⟩ = some (.slice A0_1 l0_1.length c0_1) := (blk_cell BK172.out 1).trans rfl; have hcz18_2 : w16.cell? ⟨gb172, 2, none⟩ = some (.string a0_2) := (blk_cell BK172.out 2).trans rfl; have hcz18_3 : w16.cell? ⟨gb172, 3, none⟩ = some (.string a0_3) := (blk_cell BK172.out 3).trans rfl; have hfz18_0 := blk_frozen BK172.out 0; have hfz18_1 := blk_frozen BK172.out 1; have hfz18_2 := blk_frozen BK172.out 2; have hfz18_3 := blk_frozen BK172.out 3; have hcz19_0 : w16.cell? ⟨gb173, 0, none⟩ = some (.bool a1_0) := (blk_cell BK173.out 0).trans rfl; have hcz19_1 : w16.cell? ⟨gb173, 1, none⟩ = some (.slice A1_1 l1_1.length c1_1) := (blk_cell BK173.out 1).trans rfl; have hcz19_2 : w16.cell? ⟨gb173, 2, none⟩ = some (.string a1_2) := (blk_cell BK173.out 2).trans rfl; have hcz19_3 : w16.cell? ⟨gb173, 3, none⟩ = some (.string a1_3) := (blk_cell BK173.out 3).trans rfl; have hfz19_0 := blk_frozen BK173.out 0; have hfz19_1 := blk_frozen BK173.out 1; have hfz19_2 := blk_frozen BK173.out 2; have hfz19_3 := blk_frozen BK173.out 3) | ((with_reducible refine gate_callee (f := 29) rfl ?_); refine goesL_ (some 10) rfl rfl Tryz.func29 (by kernel_rfl) rfl #[.slice A0_1 l0_1.length c0_1, .slice A1_1 l1_1.length c1_1] rfl (by (try simp only [List.map_toArray, List.map_cons, List.map_nil]); first | done | rfl | (simp only [List.length_drop, List.length_take]; rfl)) ?_; (with_reducible refine (spec_CompareNumbers.calls k _ _ l0_1 _ _ l1_1 t174 _ ?side1 ?side2 ?side3 ?side4 A3.out).mono ?_); (case side1 => repeat (first | exact (Kd.C_below HR0_1.out HB.out) | (with_reducible refine Kd.C_alloc ?_ _) | (with_reducible refine Kd.C_drewN ?_ _) | (with_reducible refine Kd.C_drew ?_))); (case side2 => exact HC0_1.out); (case side3 => repeat (first | exact (Kd.C_below HR1_1.out HB.out) | (with_reducible refine Kd.C_alloc ?_ _) | (with_reducible refine Kd.C_drewN ?_ _) | (with_reducible refine Kd.C_drew ?_))); (case side4 => exact HC1_1.out); rintro e w20 ⟨rfl, hb⟩; refine ⟨_, rfl, ?_⟩; have n0_ := Aside0.mk (blk_below (g := gb172) (o := .cells #[.bool a0_0, .slice A0_1 l0_1.length c0_1, .string a0_2, .string a0_3] 24 (0, 0)) (by (with_reducible repeat (first | refine blk_drewN ?_ _ | refine blk_drew ?_ | refine blk_alloc ?_ _)); exact BK172.out) hb); have n1_ := Aside0.mk (blk_below (g := gb173) (o := .cells #[.bool a1_0, .slice A1_1 l1_1.length c1_1, .string a1_2, .string a1_3] 24 (0, 0)) (by (with_reducible repeat (first | refine blk_drewN ?_ _ | refine blk_drew ?_ | refine blk_alloc ?_ _)); exact BK173.out) hb); have n2_ := Aside0.mk (below_step (by repeat (first | (with_reducible first | exact HB.out | apply below_alloc | apply pw_below_drewN | apply below_drew1 | refine below_set ?_ GE172.out | refine below_set ?_ GE173.out) | exact HB.out)) hb); clear BK172; clear BK173; clear HB; have BK172 := n0_; have BK173 := n1_; have HB := n2_; clear n0_ n1_ n2_; (try clear hb); (try clear hb2); (try clear hk); (try clear hi)))
   go_ret
   exact ⟨by first | rfl | (simp [errW_none, errW_some] <;> rfl) | (simp [*, errW_none, errW_some] <;> rfl) | (simp [bne_nil_]; done), by repeat (first | (with_reducible first | exact HB.out | apply below_alloc | apply pw_below_drewN | apply below_drew1 | refine below_set ?_ GE172.out | refine below_set ?_ GE173.out) | exact HB.out)⟩

/-! ### spec_NuGetCompare: function 7 -/
def spec_NuGetCompare.f (k : Nat) (a0_0 : Bool) (l0_1 : List (S55)) (a0_2 : ByteArray) (a0_3 : ByteArray) (a1_0 : Bool) (l1_1 : List (S55)) (a1_2 : ByteArray) (a1_3 : ByteArray) : Option (Int × Bool) := (Giv.spec_lower.f a0_2).bind fun t178 => ((Giv.spec_lower.f a1_2).bind fun t179 => ((spec_likeOrder.f k a0_0 l0_1 t178 a0_3 a1_0 l1_1 t179 a1_3).bind fun t180 => (some (t180, true))))
theorem spec_NuGetCompare.mono : ∀ a0 a1 a2 a3 a4 a5 a6 a7 k, LeO (spec_NuGetCompare.f k a0 a1 a2 a3 a4 a5 a6 a7) (spec_NuGetCompare.f (k + 1) a0 a1 a2 a3 a4 a5 a6 a7) := by
 intro a0 a1 a2 a3 a4 a5 a6 a7 k
 unfold spec_NuGetCompare.f
 repeat' first
  | (with_reducible exact spec_likeOrder.mono _ _ _ _ _ _ _ _ _)
  | (with_reducible exact LeO.refl _)
  | (with_reducible exact LeO.none _)
  | (with_reducible refine LeO.ite ?_ ?_)
  | (with_reducible refine LeO.bind ?_ (fun _ => ?_))
  | exact spec_likeOrder.mono _ _ _ _ _ _ _ _ _
  | exact LeO.none _
  | refine LeO.ite ?_ ?_
  | refine LeO.bind ?_ (fun _ => ?_)
def spec_NuGetCompare.T1 : Bool × List (List Nat × List Nat) := (true, [([], []), ([0], [0]), ([1], [1]), ([], []), ([3], [3]), ([4, 2], [4]), ([0, 1, 2], []), ([6, 2, 5, 0, 1, 2], [2, 6]), ([0, 1, 2, 3, 4, 5, 6, 7], []), ([8, 5, 7, 0, 1, 2, 3, 4, 5, 6, 7], [5, 8])])
def spec_NuGetCompare.B1 : List Nat := [0, 1, 3, 0, 8, 31, 7, 127, 255, 511]
theorem spec_NuGetCompare.tab1 : rtab .any (opsOf Tryz.f7 1) = spec_NuGetCompare.T1 := by kernel_rfl
theorem spec_NuGetCompare.bits1 : waitsOk spec_NuGetCompare.T1.2 spec_NuGetCompare.B1 = true := by kernel_rfl
set_option maxHeartbeats 8000000 in
set_option maxRecDepth 100000 in
theorem spec_NuGetCompare.calls (k : Nat) (a0_0 : Bool) (A0_1 : Option Addr) (c0_1 : Nat) (l0_1 : List (S55)) (a0_2 : ByteArray) (a0_3 : ByteArray) (a1_0 : Bool) (A1_1 : Option Addr) (c1_1 : Nat) (l1_1 : List (S55)) (a1_2 : ByteArray) (a1_3 : ByteArray) (r1 : Int) (r2 : Bool) (w : World) (hr0_1 : Kd.C k55 w A0_1 l0_1.length l0_1) (hc0_1 : l0_1.length ≤ c0_1) (hr1_1 : Kd.C k55 w A1_1 l1_1.length l1_1) (hc1_1 : l1_1.length ≤ c1_1) (h : spec_NuGetCompare.f k a0_0 l0_1 a0_2 a0_3 a1_0 l1_1 a1_2 a1_3 = some (r1, r2)) :
 Calls Tryz.prog 7 #[.agg #[.bool a0_0, .slice A0_1 l0_1.length c0_1, .string a0_2, .string a0_3], .agg #[.bool a1_0, .slice A1_1 l1_1.length c1_1, .string a1_2, .string a1_3]] w fun e w' => e = .returned (.tuple #[.int .i64 r1, .bool r2]) ∧ Below w.heap.size w w' := by
 have hu24 := Tryz.underlying24
 have HR0_1 := Aside0.mk hr0_1
 have HC0_1 := Aside0.mk hc0_1
 clear hr0_1 hc0_1
 have HR1_1 := Aside0.mk hr1_1
 have HC1_1 := Aside0.mk hc1_1
 clear hr1_1 hc1_1
 have HB := Aside0.mk (Below.refl w.heap.size w)
 have H : ((Giv.spec_lower.f a0_2).bind fun t178 => ((Giv.spec_lower.f a1_2).bind fun t179 => ((spec_likeOrder.f k a0_0 l0_1 t178 a0_3 a1_0 l1_1 t179 a1_3).bind fun t180 => (some (t180, true))))) = some (r1, r2) := h
 clear h
 replace H := Option.bind_eq_some_iff.mp H
 obtain ⟨t178, A30, H⟩ := H
 replace H : ((Giv.spec_lower.f a1_2).bind fun t179 => ((spec_likeOrder.f k a0_0 l0_1 t178 a0_3 a1_0 l1_1 t179 a1_3).bind fun t180 => (some (t180, true)))) = some (r1, r2) := H
 have A3 := Aside0.mk A30
 clear A30
 replace H := Option.bind_eq_some_iff.mp H
 obtain ⟨t179, A40, H⟩ := H
 replace H : ((spec_likeOrder.f k a0_0 l0_1 t178 a0_3 a1_0 l1_1 t179 a1_3).bind fun t180 => (some (t180, true))) = some (r1, r2) := H
 have A4 := Aside0.mk A40
 clear A40
 replace H := Option.bind_eq_some_iff.mp H
 obtain ⟨t180, A50, H⟩ := H
 replace H : (some (t180, true)) = some (r1, r2) := H
 have A5 := Aside0.mk A50
 clear A50
 simp only [Option.some.injEq, Prod.mk.injEq] at H
 obtain ⟨rfl, rfl⟩ := H
 go_enter Tryz.func7, Tryz.ntmps7
 try go_wp2_with (first | ((with_reducible refine gate_dst (N := 2) rfl ?_); refine box_event ?hg (N := 2) ?hd (cs := #[.bool a0_0, .slice A0_1 l0_1.length c0_1, .string a0_2, .string a0_3]) (t := 24) ?hr ?_; (case hd => rfl); (case hg => rfl); (case hr => first | (go_simp; done) | (go_simp; rfl)); intro gb176 hg w6 hbox hb; have n0_ := Aside0.mk (below_step (by repeat (first | (with_reducible first | exact HB.out | apply below_alloc | apply pw_below_drewN | apply below_drew1) | exact HB.out)) hb); have n1_ := Aside0.mk (hbox); have n2_ := Aside0.mk ((by rw [hg]; exact (below_size (by repeat (first | (with_reducible first | exact HB.out | apply below_alloc | apply pw_below_drewN | apply below_drew1) | exact HB.out))) : w.heap.size ≤ gb176)); have n3_ := Aside0.mk ((by rw [hg]; exact (below_size (by repeat (first | (with_reducible first | exact HB.out | apply below_alloc | apply pw_below_drewN | apply below_drew1) | exact HB.out))) : w.heap.size ≤ gb176)); clear HB; have HB := n0_; have BK176 := n1_; have GW176 := n2_; have GE176 := n3_; clear n0_ n1_ n2_ n3_; clear hb hbox hg) | ((with_reducible refine gate_dst (N := 3) rfl ?_); refine box_event ?hg (N := 3) ?hd (cs := #[.bool a1_0, .slice A1_1 l1_1.length c1_1, .string a1_2, .string a1_3]) (t := 24) ?hr ?_; (case hd => rfl); (case hg => rfl); (case hr => first | (go_simp; done) | (go_simp; rfl)); intro gb177 hg w7 hbox hb; have n0_ := Aside0.mk (blk_below (g := gb176) (o := .cells #[.bool a0_0, .slice A0_1 l0_1.length c0_1, .string a0_2, .string a0_3] 24 (0, 0)) (by (with_reducible repeat (first | refine blk_drewN ?_ _ | refine blk_drew ?_ | refine blk_alloc ?_ _)); exact BK176.out) hb); have n1_ := Aside0.mk (below_step (by repeat (first | (with_reducible first | exact HB.out | apply below_alloc | apply pw_below_drewN | apply below_drew1 | refine below_set ?_ GE176.out) | exact HB.out)) hb); have n2_ := Aside0.mk (hbox); have n3_ := Aside0.mk ((by rw [hg]; exact (below_size (by repeat (first | (with_reducible first | exact HB.out | apply below_alloc | apply pw_below_drewN | apply below_drew1 | refine below_set ?_ GE176.out) | exact HB.out))) : w.heap.size ≤ gb177)); have n4_ := Aside0.mk ((by rw [hg]; exact (below_size (by repeat (first | (with_reducible first | exact HB.out | apply below_alloc | apply pw_below_drewN | apply below_drew1 | refine below_set ?_ GE176.out) | exact HB.out))) : w.heap.size ≤ gb177)); have n5_ := Aside0.mk ((by rw [hg]; exact Nat.ne_of_lt (blk_lt (g := gb176) (o := .cells #[.bool a0_0, .slice A0_1 l0_1.length c0_1, .string a0_2, .string a0_3] 24 (0, 0)) (by (with_reducible repeat (first | refine blk_drewN ?_ _ | refine blk_drew ?_ | refine blk_alloc ?_ _)); exact BK176.out)) : gb176 ≠ gb177)); have n6_ := Aside0.mk ((by rw [hg]; exact Nat.ne_of_gt (blk_lt (g := gb176) (o := .cells #[.bool a0_0, .slice A0_1 l0_1.length c0_1, .string a0_2, .string a0_3] 24 (0, 0)) (by (with_reducible repeat (first | refine blk_drewN ?_ _ | refine blk_drew ?_ | refine blk_alloc ?_ _)); exact BK176.out)) : gb177 ≠ gb176)); clear BK176; clear HB; have BK176 := n0_; have HB := n1_; have BK177 := n2_; have GW177 := n3_; have GE177 := n4_; have NB176_177 := n5_; have NB177_176 := n6_; clear n0_ n1_ n2_ n3_ n4_ n5_ n6_; clear hb hbox hg))
 have n0_ := Aside0.mk (blk_drew BK176.out)
 have n1_ := Aside0.mk (blk_drew BK177.out)
 have n2_ := Aside0.mk (below_drew1 HB.out)
 clear BK176
 clear BK177
 clear HB
 have BK176 := n0_
 have BK177 := n1_
 have HB := n2_
 clear n0_ n1_ n2_
 refine start_ (n := 10) (S := fun w' => w'.cell? ⟨gb176, 0, none⟩ = some (.bool a0_0) ∧ w'.cell? ⟨gb176, 1, none⟩ = some (.slice A0_1 l0_1.length c0_1) ∧ w'.cell? ⟨gb176, 2, none⟩ = some (.string a0_2) ∧ w'.cell? ⟨gb176, 3, none⟩ = some (.string a0_3) ∧ w'.cell? ⟨gb177, 0, none⟩ = some (.bool a1_0) ∧ w'.cell? ⟨gb177, 1, none⟩ = some (.slice A1_1 l1_1.length c1_1) ∧ w'.cell? ⟨gb177, 2, none⟩ = some (.string a1_2) ∧ w'.cell? ⟨gb177, 3, none⟩ = some (.string a1_3)) (ds := [7, 9]) #[false, false, false, false, false, false, false, false, false, false] (by kernel_rfl) rfl rfl ⟨(blk_cell BK176.out 0).trans rfl, (blk_cell BK176.out 1).trans rfl, (blk_cell BK176.out 2).trans rfl, (blk_cell BK176.out 3).trans rfl, (blk_cell BK177.out 0).trans rfl, (blk_cell BK177.out 1).trans rfl, (blk_cell BK177.out 2).trans rfl, (blk_cell BK177.out 3).trans rfl⟩ (fun hHeld => ?_); refine with_tabW spec_NuGetCompare.tab1 spec_NuGetCompare.bits1 (fun HT_ HW_ => ?_)
 generalize w7.drew = w8 at BK176 BK177 HB hHeld ⊢
 refine pure_ (i := 0) (N := some 6) (v := ?_) (a' := ?_) #[true, false, false, false, false, false, false, false, false, false] rfl rfl (any_of HT_.out (by kernel_rfl)) (fun _ _ _ h => h) (Or.inl ⟨by rfl, ?_⟩) ?_ ?_
 rotate_left
 · intro w'
   go_simp
   with_reducible rfl
 rotate_left
 · simp only [Act.put, List.setIfInBounds_toArray, List.set_cons_zero, List.set_cons_succ, i64_w, i32_w]
   rfl
 refine pure_ (i := 3) (N := some 9) (v := ?_) (a' := ?_) #[true, false, false, true, false, false, false, false, false, false] rfl rfl (any_of HT_.out (by kernel_rfl)) (fun _ _ _ h => h) (Or.inl ⟨by rfl, ?_⟩) ?_ ?_
 rotate_left
 · intro w'
   go_simp
   with_reducible rfl
 rotate_left
 · simp only [Act.put, List.setIfInBounds_toArray, List.set_cons_zero, List.set_cons_succ, i64_w, i32_w]
   rfl
 refine take_ (i := 1) (N := some 7) (v := ?_) (a' := ?_) #[true, true, false, true, false, false, false, false, false, false] rfl rfl (take_ofW HT_.out HW_.out (by kernel_rfl)) (fun _ _ _ h => h) (Or.inl ⟨by rfl, ?_⟩) hHeld ?_ ?_
 rotate_left
 · rintro w' ⟨s0, s1, s2, s3, s4, s5, s6, s7⟩
   go_simp
   with_reducible rfl
 rotate_left
 · simp only [Act.put, List.setIfInBounds_toArray, List.set_cons_zero, List.set_cons_succ, i64_w, i32_w]
   rfl
 refine take_ (i := 4) (N := some 10) (v := ?_) (a' := ?_) #[true, true, false, true, true, false, false, false, false, false] rfl rfl (take_ofW HT_.out HW_.out (by kernel_rfl)) (fun _ _ _ h => h) (Or.inl ⟨by rfl, ?_⟩) hHeld ?_ ?_
 rotate_left
 · rintro w' ⟨s0, s1, s2, s3, s4, s5, s6, s7⟩
   go_simp
   with_reducible rfl
 rotate_left
 · simp only [Act.put, List.setIfInBounds_toArray, List.set_cons_zero, List.set_cons_succ, i64_w, i32_w]
   rfl
 refine one_ (i := 2) (N := some 8) #[true, true, true, true, true, false, false, false, false, false] rfl rfl (one_of HT_.out (by kernel_rfl)) (by decide) (fun K hK => ?_)
 refine goes_ Tryz.func16 (by kernel_rfl) rfl #[.string a0_2] (by rfl) rfl rfl (by (try simp only [List.map_toArray, List.map_cons, List.map_nil]); first | done | rfl | (simp only [List.length_drop, List.length_take]; rfl)) ?_
 with_reducible refine (Giv.spec_lower.calls a0_2 t178 _ A3.out).mono ?_
 rintro e w9 ⟨rfl, hb⟩
 refine ⟨_, rfl, ?_⟩
 have n0_ := Aside0.mk (blk_below (g := gb176) (o := .cells #[.bool a0_0, .slice A0_1 l0_1.length c0_1, .string a0_2, .string a0_3] 24 (0, 0)) (by (with_reducible repeat (first | refine blk_drewN ?_ _ | refine blk_drew ?_ | refine blk_alloc ?_ _)); exact BK176.out) hb)
 have n1_ := Aside0.mk (blk_below (g := gb177) (o := .cells #[.bool a1_0, .slice A1_1 l1_1.length c1_1, .string a1_2, .string a1_3] 24 (0, 0)) (by (with_reducible repeat (first | refine blk_drewN ?_ _ | refine blk_drew ?_ | refine blk_alloc ?_ _)); exact BK177.out) hb)
 have n2_ := Aside0.mk (below_step (by repeat (first | (with_reducible first | exact HB.out | apply below_alloc | apply pw_below_drewN | apply below_drew1 | refine below_set ?_ GE176.out | refine below_set ?_ GE177.out) | exact HB.out)) hb)
 clear BK176
 clear BK177
 clear HB
 have BK176 := n0_
 have BK177 := n1_
 have HB := n2_
 clear n0_ n1_ n2_
 (try clear hb)
 (try clear hb2)
 (try clear hk)
 (try clear hi)
 refine hK.out _ _ ⟨(blk_cell BK176.out 0).trans rfl, (blk_cell BK176.out 1).trans rfl, (blk_cell BK176.out 2).trans rfl, (blk_cell BK176.out 3).trans rfl, (blk_cell BK177.out 0).trans rfl, (blk_cell BK177.out 1).trans rfl, (blk_cell BK177.out 2).trans rfl, (blk_cell BK177.out 3).trans rfl⟩ (fun hHeld => ?_)
 clear hK K
 refine norm_ (a' := ?_) ?_ ?_
 rotate_left
 · show Act.put _ (some 8) _ = _
   simp only [Act.put, List.setIfInBounds_toArray, List.set_cons_zero, List.set_cons_succ, i64_w, i32_w]
   rfl
 refine pure_ (i := 6) (N := some 12) (v := ?_) (a' := ?_) #[true, true, true, true, true, false, true, false, false, false] rfl rfl (any_of HT_.out (by kernel_rfl)) (fun _ _ _ h => h) (Or.inl ⟨by rfl, ?_⟩) ?_ ?_
 rotate_left
 · intro w'
   go_simp
   with_reducible rfl
 rotate_left
 · simp only [Act.put, List.setIfInBounds_toArray, List.set_cons_zero, List.set_cons_succ, i64_w, i32_w]
   rfl
 refine one_ (i := 5) (N := some 11) #[true, true, true, true, true, true, true, false, false, false] rfl rfl (one_of HT_.out (by kernel_rfl)) (by decide) (fun K hK => ?_)
 refine goes_ Tryz.func16 (by kernel_rfl) rfl #[.string a1_2] (by rfl) rfl rfl (by (try simp only [List.map_toArray, List.map_cons, List.map_nil]); first | done | rfl | (simp only [List.length_drop, List.length_take]; rfl)) ?_
 with_reducible refine (Giv.spec_lower.calls a1_2 t179 _ A4.out).mono ?_
 rintro e w10 ⟨rfl, hb⟩
 refine ⟨_, rfl, ?_⟩
 have n0_ := Aside0.mk (blk_below (g := gb176) (o := .cells #[.bool a0_0, .slice A0_1 l0_1.length c0_1, .string a0_2, .string a0_3] 24 (0, 0)) (by (with_reducible repeat (first | refine blk_drewN ?_ _ | refine blk_drew ?_ | refine blk_alloc ?_ _)); exact BK176.out) hb)
 have n1_ := Aside0.mk (blk_below (g := gb177) (o := .cells #[.bool a1_0, .slice A1_1 l1_1.length c1_1, .string a1_2, .string a1_3] 24 (0, 0)) (by (with_reducible repeat (first | refine blk_drewN ?_ _ | refine blk_drew ?_ | refine blk_alloc ?_ _)); exact BK177.out) hb)
 have n2_ := Aside0.mk (below_step (by repeat (first | (with_reducible first | exact HB.out | apply below_alloc | apply pw_below_drewN | apply below_drew1 | refine below_set ?_ GE176.out | refine below_set ?_ GE177.out) | exact HB.out)) hb)
 clear BK176
 clear BK177
 clear HB
 have BK176 := n0_
 have BK177 := n1_
 have HB := n2_
 clear n0_ n1_ n2_
 (try clear hb)
 (try clear hb2)
 (try clear hk)
 (try clear hi)
 refine hK.out _ _ ⟨(blk_cell BK176.out 0).trans rfl, (blk_cell BK176.out 1).trans rfl, (blk_cell BK176.out 2).trans rfl, (blk_cell BK176.out 3).trans rfl, (blk_cell BK177.out 0).trans rfl, (blk_cell BK177.out 1).trans rfl, (blk_cell BK177.out 2).trans rfl, (blk_cell BK177.out 3).trans rfl⟩ (fun hHeld => ?_)
 clear hK K
 refine norm_ (a' := ?_) ?_ ?_
 rotate_left
 · show Act.put _ (some 11) _ = _
   simp only [Act.put, List.setIfInBounds_toArray, List.set_cons_zero, List.set_cons_succ, i64_w, i32_w]
   rfl
 refine last_ (i := 7) (N := none) #[true, true, true, true, true, true, true, true, false, false] rfl rfl (one_of HT_.out (by kernel_rfl)) (by decide) (fun K hK => ?_)
 have hs11 : w10.cell? ⟨gb176, 2, none⟩ = some (.string a0_2) := (blk_cell BK176.out 2).trans rfl
 have hfs11 := blk_frozen BK176.out 2
 have hns11_1 := NB177_176.out
 have hms11_1 := NB176_177.out
 refine skip_ (w1 := ?_) (by rfl) rfl ?_ ?_
 rotate_left
 · go_simp
   rfl
 refine hK.out _ _ ?_
 clear hK K
 refine pure_ (i := 8) (N := some 13) (v := ?_) (a' := ?_) #[true, true, true, true, true, true, true, true, true, false] rfl rfl (any_of HT_.out (by kernel_rfl)) (fun _ _ _ h => h) (Or.inl ⟨by rfl, ?_⟩) ?_ ?_
 rotate_left
 · intro w'
   go_simp
   with_reducible rfl
 rotate_left
 · simp only [Act.put, List.setIfInBounds_toArray, List.set_cons_zero, List.set_cons_succ, i64_w, i32_w]
   rfl
 refine last_ (i := 9) (N := none) #[true, true, true, true, true, true, true, true, true, true] rfl rfl (one_of HT_.out (by kernel_rfl)) (by decide) (fun K hK => ?_)
 have hs12 : w10.cell? ⟨gb177, 2, none⟩ = some (.string a1_2) := (blk_cell BK177.out 2).trans rfl
 have hfs12 := blk_frozen BK177.out 2
 have hns12_0 := NB176_177.out
 have hms12_0 := NB177_176.out
 refine skip_ (w1 := ?_) (by rfl) rfl ?_ ?_
 rotate_left
 · go_simp
   rfl
 refine hK.out _ _ ?_
 clear hK K
 refine done_ (done_of HT_.out (by kernel_rfl)) ?_
 have hnb13 := NB176_177.out
 have hnc13 := NB177_176.out
 have hcz14_0 : w10.cell? ⟨gb176, 0, none⟩ = some (.bool a0_0) := (blk_cell BK176.out 0).trans rfl
 have hcz14_1 : w10.cell? ⟨gb176, 1, none⟩ = some (.slice A0_1 l0_1.length c0_1) := (blk_cell BK176.out 1).trans rfl
 have hcz14_2 : w10.cell? ⟨gb176, 2, none⟩ = some (.string a0_2) := (blk_cell BK176.out 2).trans rfl
 have hcz14_3 : w10.cell? ⟨gb176, 3, none⟩ = some (.string a0_3) := (blk_cell BK176.out 3).trans rfl
 have hfz14_0 := blk_frozen BK176.out 0
 have hfz14_1 := blk_frozen BK176.out 1
 have hfz14_2 := blk_frozen BK176.out 2
 have hfz14_3 := blk_frozen BK176.out 3
 have hcz15_0 : w10.cell? ⟨gb177, 0, none⟩ = some (.bool a1_0) := (blk_cell BK177.out 0).trans rfl
 have hcz15_1 : w10.cell? ⟨gb177, 1, none⟩ = some (.slice A1_1 l1_1.length c1_1) := (blk_cell BK177.out 1).trans rfl
 have hcz15_2 : w10.cell? ⟨gb177, 2, none⟩ = some (.string a1_2) := (blk_cell BK177.out 2).trans rfl
 have hcz15_3 : w10.cell? ⟨gb177, 3, none⟩ = some (.string a1_3) := (blk_cell BK177.out 3).trans rfl
 have hfz15_0 := blk_frozen BK177.out 0
 have hfz15_1 := blk_frozen BK177.out 1
 have hfz15_2 := blk_frozen BK177.out 2
 have hfz15_3 := blk_frozen BK177.out 3
 try go_wp2_with (first | ((with_reducible refine gate_callee (f := 17) rfl ?_); refine goesL_ (some 16) rfl rfl Tryz.func17 (by kernel_rfl) rfl #[.agg #[.bool a0_0, .slice A0_1 l0_1.length c0_1, .string t178, .string a0_3], .agg #[.bool a1_0, .slice A1_1 l1_1.length c1_1, .string t179, .string a1_3]] rfl (by (try simp only [List.map_toArray, List.map_cons, List.map_nil]); first | done | rfl | (simp only [List.length_drop, List.length_take]; rfl)) ?_; (with_reducible refine (spec_likeOrder.calls k a0_0 _ _ l0_1 t178 a0_3 a1_0 _ _ l1_1 t179 a1_3 t180 _ ?side1 ?side2 ?side3 ?side4 A5.out).mono ?_); (case side1 => exact Kd.C_below HR0_1.out (by repeat (first | (with_reducible first | exact HB.out | apply below_alloc | apply pw_below_drewN | apply below_drew1 | refine below_set ?_ GE176.out | refine below_set ?_ GE177.out) | exact HB.out))); (case side2 => exact HC0_1.out); (case side3 => exact Kd.C_below HR1_1.out (by repeat (first | (with_reducible first | exact HB.out | apply below_alloc | apply pw_below_drewN | apply below_drew1 | refine below_set ?_ GE176.out | refine below_set ?_ GE177.out) | exact HB.out))); (case side4 => exact HC1_1.out); rintro e w16 ⟨rfl, hb⟩; refine ⟨_, rfl, ?_⟩; have n0_ := Aside0.mk (blk_below (g := gb176) (o := .cells #[.bool a0_0, .slice A0_1 l0_1.length c0_1, .string t178, .string a0_3] 24 (0, 0)) (by (with_reducible repeat (first | refine blk_drewN ?_ _ | refine blk_drew ?_ | refine blk_alloc ?_ _)); refine blk_far ?_ NB176_177.out _; (with_reducible repeat (first | refine blk_drewN ?_ _ | refine blk_drew ?_ | refine blk_alloc ?_ _)); refine blk_put (cs := #[.bool a0_0, .slice A0_1 l0_1.length c0_1, .string a0_2, .string a0_3]) ?_ 2 _ rfl; (with_reducible repeat (first | refine blk_drewN ?_ _ | refine blk_drew ?_ | refine blk_alloc ?_ _)); exact BK176.out) hb); have n1_ := Aside0.mk (blk_below (g := gb177) (o := .cells #[.bool a1_0, .slice A1_1 l1_1.length c1_1, .string t179, .string a1_3] 24 (0, 0)) (by (with_reducible repeat (first | refine blk_drewN ?_ _ | refine blk_drew ?_ | refine blk_alloc ?_ _)); refine blk_put (cs := #[.bool a1_0, .slice A1_1 l1_1.length c1_1, .string a1_2, .string a1_3]) ?_ 2 _ rfl; (with_reducible repeat (first | refine blk_drewN ?_ _ | refine blk_drew ?_ | refine blk_alloc ?_ _)); refine blk_far ?_ NB177_176.out _; (with_reducible repeat (first | refine blk_drewN ?_ _ | refine blk_drew ?_ | refine blk_alloc ?_ _)); exact BK177.out) hb); have n2_ := Aside0.mk (below_step (by repeat (first | (with_reducible first | exact HB.out | apply below_alloc | apply pw_below_drewN | apply below_drew1 | refine below_set ?_ GE176.out | refine below_set ?_ GE177.out) | exact HB.out)) hb); clear BK176; clear BK177; clear HB; have BK176 := n0_; have BK177 := n1_; have HB := n2_; clear n0_ n1_ n2_; (try clear hb); (try clear hb2); (try clear hk); (try clear hi)))
 go_ret2
 exact ⟨by first | rfl | (simp [errW_none, errW_some] <;> rfl) | (simp [*, errW_none, errW_some] <;> rfl) | (simp [bne_nil_]; done), by repeat (first | (with_reducible first | exact HB.out | apply below_alloc | apply pw_below_drewN | apply below_drew1 | refine below_set ?_ GE176.out | refine below_set ?_ GE177.out) | exact HB.out)⟩

-- LEFT OUT: function 90

-- LEFT OUT: function 101

-- LEFT OUT: function 100

-- LEFT OUT: function 91

-- LEFT OUT: function 92

-- LEFT OUT: function 80

-- LEFT OUT: function 65

-- LEFT OUT: function 93

-- LEFT OUT: function 81

-- LEFT OUT: function 66

-- NOT PRINTED: function 51 (semantic_zzBig)

-- NOT PRINTED: function 41 (semantic_zzBigs)

-- NOT PRINTED: function 31 (semantic_ZZLike_like)

-- NOT PRINTED: function 18 (semantic_ZZNuGet)

/-! ### impl_bigs: function 32 -/
def impl_bigs.l0 : Nat → List (S77) → List (S55) → Int → Int → Option ((List (S77)))
 | 0, _, _, _, _ => none
 | k + 1, x3, x6, x7, x8 => if x8 < x7 then (if 0 ≤ x8 then (if x8 < (x6.length : Int) then (if x3.length < 5864062014805 then (impl_bigs.l0 k (x3 ++ [(⟨(rd_T55 x6 x8).f0, (rd_T55 x6 x8).f1⟩ : S77)]) x6 x7 (wrap64 (x8 + 1))) else (none)) else (none)) else (none)) else (some x3)
def impl_bigs.f (k : Nat) (l0 : List (S55)) : Option ((List (S77))) := impl_bigs.l0 k ([] : List (S77)) l0 (l0.length : Int) 0
theorem impl_bigs.mono_l : ∀ k, (∀ y0 y1 y2 y3, LeO (impl_bigs.l0 k y0 y1 y2 y3) (impl_bigs.l0 (k + 1) y0 y1 y2 y3))
 | 0 => fun _ _ _ _ r h => by simp [impl_bigs.l0] at h
 | k + 1 => by
  have ih0 := impl_bigs.mono_l k
  · intro y0 y1 y2 y3
    unfold impl_bigs.l0
    repeat' first
    | (with_reducible exact ih0 _ _ _ _)
    | (with_reducible exact LeO.refl _)
    | (with_reducible exact LeO.none _)
    | (with_reducible refine LeO.ite ?_ ?_)
    | (with_reducible refine LeO.bind ?_ (fun _ => ?_))
    | exact ih0 _ _ _ _
    | exact LeO.none _
    | refine LeO.ite ?_ ?_
    | refine LeO.bind ?_ (fun _ => ?_)
theorem impl_bigs.mono : ∀ a0 k, LeO (impl_bigs.f k a0) (impl_bigs.f (k + 1) a0) := by
 intro a0 k
 have ih0 := impl_bigs.mono_l k
 unfold impl_bigs.f
 repeat' first
  | (with_reducible exact ih0 _ _ _ _)
  | (with_reducible exact LeO.refl _)
  | (with_reducible exact LeO.none _)
  | (with_reducible refine LeO.ite ?_ ?_)
  | (with_reducible refine LeO.bind ?_ (fun _ => ?_))
  | exact ih0 _ _ _ _
  | exact LeO.none _
  | refine LeO.ite ?_ ?_
  | refine LeO.bind ?_ (fun _ => ?_)
set_option maxHeartbeats 8000000 in
set_option maxRecDepth 100000 in
theorem impl_bigs.calls (k : Nat) (A0 : Option Addr) (c0 : Nat) (l0 : List (S55)) (r : List (S77)) (w : World) (hr0 : Kd.C k55 w A0 l0.length l0) (hc0 : l0.length ≤ c0) (h : impl_bigs.f k l0 = some r) :
 Calls Tryz.prog 32 #[.slice A0 l0.length c0] w fun e w' => ∃ v0_ : Value, e = .returned (v0_) ∧ Kd.R k77 77 w' w.heap.size (fun _ => True) v0_ r ∧ Below w.heap.size w w' := by
 have hu55 := Tryz.underlying55
 have HR0 := Aside0.mk hr0
 have HC0 := Aside0.mk hc0
 clear hr0 hc0
 have HB := Aside0.mk (Below.refl w.heap.size w)
 have H : (impl_bigs.l0 k ([] : List (S77)) l0 (l0.length : Int) 0) = some r := h
 clear h
 have H' := Aside0.mk H
 clear H
 go_enter Tryz.func32, Tryz.ntmps32
 go_wp2
 go_loopg [3, 8] k (fun kq v3 v8 w' => ∃ (x3_1 : List (S77)) (x8_1 : Int), v8 = .int .i64 x8_1 ∧ Aside0 (impl_bigs.l0 kq x3_1 l0 (l0.length : Int) x8_1 = some r) ∧ Aside0 (kq ≤ k) ∧ Aside0 (Kd.R k77 77 w' w.heap.size (fun _ => True) v3 x3_1) ∧ Aside0 (Below w.heap.size w w'))
 case atStart => exact ⟨(([] : List (S77))), (0), (by first | rfl | (simp; done) | (simp [*]; done) | (simp [bne_nil_]; done)), H', ⟨Nat.le_refl _⟩, ⟨by first | exact Kd.R_nil _ _ _ _ _ | exact Kd.N_nil _ _ _ _ _ | exact Kd.V_nil _ _ _ _ _ | exact Kd.Q_nil _ _ _ _ _ | exact Kd.S_nil _ _ _ _ _⟩, ⟨by repeat (first | (with_reducible first | exact HB.out | apply below_alloc | apply pw_below_drewN | apply below_drew1) | exact HB.out)⟩⟩
 case round =>
  clear H'
  obtain ⟨x3_1, x8_1, rfl, HA, HK1, HO_3, HB⟩ := hrel
  cases gk with
  | zero => exact absurd HA.out (by simp [impl_bigs.l0])
  | succ k1 =>
   have H := HA.out
   clear HA
   simp only [impl_bigs.l0] at H
   by_cases c2 : x8_1 < (l0.length : Int)
   · rw [if_pos c2] at H
     have c2b0 : decide (x8_1 < (l0.length : Int)) = true := decide_eq_true c2
     clear c2
     by_cases c3 : 0 ≤ x8_1
     · rw [if_pos c3] at H
       have c3b0 : decide (0 ≤ x8_1) = true := decide_eq_true c3
       clear c3
       by_cases c4 : x8_1 < (l0.length : Int)
       · rw [if_pos c4] at H
         have c4b0 : decide (x8_1 < (l0.length : Int)) = true := decide_eq_true c4
         clear c4
         by_cases c5 : x3_1.length < 5864062014805
         · rw [if_pos c5] at H
           have LMc5 := Aside0.mk c5
           clear c5
           obtain ⟨y185, hy185⟩ : ∃ y_ : List (S77), y_ = (x3_1 ++ [(⟨(rd_T55 l0 x8_1).f0, (rd_T55 l0 x8_1).f1⟩ : S77)]) := ⟨_, rfl⟩
           replace H : (impl_bigs.l0 k1 y185 l0 (l0.length : Int) (wrap64 (x8_1 + 1))) = some r := by first | (rw [hy185]; with_reducible exact H) | (have H2_ := (Option.bind_some _ _).symm.trans H; rw [hy185]; with_reducible exact H2_) | (have H2_ := (Option.bind_some _ _).symm.trans H; with_reducible exact H2_) | with_reducible exact H | (rw [hy185]; exact H) | exact H
           have Ny185 := Aside0.mk hy185
           clear hy185
           have H' := Aside0.mk H
           clear H
           have p183 : 0 ≤ (x8_1 : Int) := of_decide_eq_true (by first | (with_reducible assumption) | assumption)
           have q183 : x8_1 < (l0.length : Int) := of_decide_eq_true (by first | (with_reducible assumption) | assumption)
           obtain ⟨ad183, e183, hx183_0, hx183_1⟩ := at_T55 HR0.out x8_1 p183 q183
           cases e183
           replace hx183_0 := (HB.out.cell (World.block_lt_of_cell? w _ hx183_0)).trans hx183_0
           replace hx183_1 := (HB.out.cell (World.block_lt_of_cell? w _ hx183_1)).trans hx183_1
           replace p183 := eq_true p183
           replace q183 := eq_true q183
           go_wp2_with (first | ((with_reducible refine gate_dst (N := 5) rfl ?_); refine box_event ?hg (N := 5) ?hd (cs := #[.bool false, .string (⟨#[]⟩ : ByteArray)]) (t := 55) ?hr ?_; (case hd => rfl); (case hg => rfl); (case hr => first | (go_simp; done) | (go_simp; rfl)); intro gb184 hg w6 hbox hb; have n0_ := Aside0.mk (Kd.R_below (by (with_reducible repeat (first | apply Kd.R_alloc | apply Kd.R_drewN | apply Kd.R_drew)); exact HO_3.out) hb); have n1_ := Aside0.mk (below_step (by repeat (first | (with_reducible first | exact HB.out | apply below_alloc | apply pw_below_drewN | apply below_drew1) | exact HB.out)) hb); have n2_ := Aside0.mk (hbox); have n3_ := Aside0.mk ((by rw [hg]; exact (below_size (by repeat (first | (with_reducible first | exact HB.out | apply below_alloc | apply pw_below_drewN | apply below_drew1) | exact HB.out))) : w.heap.size ≤ gb184)); have n4_ := Aside0.mk ((by rw [hg]; exact (below_size (by repeat (first | (with_reducible first | exact HB.out | apply below_alloc | apply pw_below_drewN | apply below_drew1) | exact HB.out))) : w.heap.size ≤ gb184)); clear HO_3; clear HB; have HO_3 := n0_; have HB := n1_; have BK184 := n2_; have GW184 := n3_; have GE184 := n4_; clear n0_ n1_ n2_ n3_ n4_; clear hb hbox hg; have hcz7_0 : w6.cell? ⟨gb184, 0, none⟩ = some (.bool false) := (blk_cell BK184.out 0).trans rfl; have hcz7_1 : w6.cell? ⟨gb184, 1, none⟩ = some (.string (⟨#[]⟩ : ByteArray)) := (blk_cell BK184.out 1).trans rfl; have hfz7_0 := blk_frozen BK184.out 0; have hfz7_1 := blk_frozen BK184.out 1) | ((with_reducible refine gate_builtin (b := .append) (xs := #[.tmp 12, .tmp 14]) rfl ?_); at_builtin; refine Kd.R_append k77 (w0 := w) w.heap.size rfl (.tmp 12) (.tmp 14) 46 77 (.agg #[(.bool false), (.string ⟨#[]⟩)]) 24 rfl Tryz.underlying46 info77 rfl (by decide) (by omega) u3 x3_1 (⟨(rd_T55 l0 x8_1).f0, (rd_T55 l0 x8_1).f1⟩ : S77) [.bool ((rd_T55 l0 x8_1).f0), .string ((rd_T55 l0 x8_1).f1)] (fun _ => True) (fun _ => False) rfl (by first | (go_simp; done) | (go_simp; rfl)) ?aP (fun _ hk => hk.elim) ?aF ?aO ?aB ?aS ?aL ?_; (case aP => exact k77_mkM _ _ _ (⟨(rd_T55 l0 x8_1).f0, (rd_T55 l0 x8_1).f1⟩ : S77)); (case aB => exact (by repeat (first | (with_reducible first | exact HB.out | apply below_alloc | apply pw_below_drewN | apply below_drew1 | refine below_set ?_ GE184.out) | exact HB.out))); (case aF => exact (fun _ _ => trivial)); (case aO => exact (by (with_reducible repeat (first | apply Kd.R_alloc | apply Kd.R_drewN | apply Kd.R_drew)); exact Kd.R_mono (Kd.R_far (p := ⟨gb184, 1, none⟩) (Kd.R_far (p := ⟨gb184, 0, none⟩) (Kd.R_types HO_3.out BK184.out (by decide)) (fun _ hk => hk.2) (.bool ((rd_T55 l0 x8_1).f0))) (fun _ hk => hk.2) (.string ((rd_T55 l0 x8_1).f1))) (fun _ hk => trivial))); (case aS => exact (below_size (by repeat (first | (with_reducible first | exact HB.out | apply below_alloc | apply pw_below_drewN | apply below_drew1 | refine below_set ?_ GE184.out) | exact HB.out)))); (case aL => have := LMc5.out; omega); intro v186 w8 ho hb hg hat; rw [← Ny185.out] at ho; have n0_ := Aside0.mk (blk_grown (g := gb184) (o := .cells #[.bool ((rd_T55 l0 x8_1).f0), .string ((rd_T55 l0 x8_1).f1)] 55 (0, 0)) (by (with_reducible repeat (first | refine blk_drewN ?_ _ | refine blk_drew ?_ | refine blk_alloc ?_ _)); refine blk_put (cs := #[.bool ((rd_T55 l0 x8_1).f0), .string (⟨#[]⟩ : ByteArray)]) ?_ 1 _ rfl; (with_reducible repeat (first | refine blk_drewN ?_ _ | refine blk_drew ?_ | refine blk_alloc ?_ _)); refine blk_put (cs := #[.bool false, .string (⟨#[]⟩ : ByteArray)]) ?_ 0 _ rfl; (with_reducible repeat (first | refine blk_drewN ?_ _ | refine blk_drew ?_ | refine blk_alloc ?_ _)); exact BK184.out) hg (Kd.R_ne HO_3.out BK184.out (by decide))); have n1_ := Aside0.mk (hb); have n2_ := Aside0.mk (ho); clear BK184; clear HB; clear HO_3; have BK184 := n0_; have HB := n1_; have HO187 := n2_; clear n0_ n1_ n2_; clear ho hb hg hat))
           go_roundg k1
           case measure => have := HK1.out; omega
           case rel => exact ⟨(y185), (wrap64 (x8_1 + 1)), (by first | rfl | (simp; done) | (simp [*]; done) | (simp [bne_nil_]; done)), H', ⟨by have := HK1.out; omega⟩, ⟨by (with_reducible repeat (first | apply Kd.R_alloc | apply Kd.R_drewN | apply Kd.R_drew)); exact HO187.out⟩, ⟨by repeat (first | (with_reducible first | exact HB.out | apply below_alloc | apply pw_below_drewN | apply below_drew1 | refine below_set ?_ GE184.out) | exact HB.out)⟩⟩
         · rw [if_neg c5] at H
           exact absurd H (by simp)
       · rw [if_neg c4] at H
         exact absurd H (by simp)
     · rw [if_neg c3] at H
       exact absurd H (by simp)
   · rw [if_neg c2] at H
     have c2b0 : decide (x8_1 < (l0.length : Int)) = false := decide_eq_false c2
     clear c2
     obtain rfl := Option.some.inj H
     go_wp2
     go_ret
     exact ⟨_, by first | rfl | (simp [errW_none, errW_some] <;> rfl) | (simp [*, errW_none, errW_some] <;> rfl) | (simp [bne_nil_]; done), by (with_reducible repeat (first | apply Kd.R_alloc | apply Kd.R_drewN | apply Kd.R_drew)); exact HO_3.out, by repeat (first | (with_reducible first | exact HB.out | apply below_alloc | apply pw_below_drewN | apply below_drew1) | exact HB.out)⟩

/-! ### impl_like: function 19 -/
def impl_like.f (k : Nat) (a0_0 : Bool) (l0_1 : List (S55)) (a0_2 : ByteArray) (a0_3 : ByteArray) : Option (Bool × (List (S77)) × ByteArray × ByteArray) := (impl_bigs.f k l0_1).bind fun t190 => (some (a0_0, t190, a0_2, a0_3))
theorem impl_like.mono : ∀ a0 a1 a2 a3 k, LeO (impl_like.f k a0 a1 a2 a3) (impl_like.f (k + 1) a0 a1 a2 a3) := by
 intro a0 a1 a2 a3 k
 unfold impl_like.f
 repeat' first
  | (with_reducible exact impl_bigs.mono _ _)
  | (with_reducible exact LeO.refl _)
  | (with_reducible exact LeO.none _)
  | (with_reducible refine LeO.ite ?_ ?_)
  | (with_reducible refine LeO.bind ?_ (fun _ => ?_))
  | exact impl_bigs.mono _ _
  | exact LeO.none _
  | refine LeO.ite ?_ ?_
  | refine LeO.bind ?_ (fun _ => ?_)
def impl_like.T1 : Bool × List (List Nat × List Nat) := (true, [([], []), ([0], [0]), ([], []), ([2], [2]), ([3], [3]), ([], []), ([5], [5]), ([], []), ([7], [7]), ([1, 4, 6, 8], [1, 4, 6, 8]), ([9, 4, 0, 1, 2, 3, 4, 5, 6, 7, 8, 9], [9])])
def impl_like.B1 : List Nat := [0, 1, 0, 4, 12, 0, 32, 0, 128, 511, 1023]
theorem impl_like.tab1 : rtab .any (opsOf Tryz.f19 1) = impl_like.T1 := by kernel_rfl
theorem impl_like.bits1 : waitsOk impl_like.T1.2 impl_like.B1 = true := by kernel_rfl
set_option maxHeartbeats 8000000 in
set_option maxRecDepth 100000 in
theorem impl_like.calls (k : Nat) (a0_0 : Bool) (A0_1 : Option Addr) (c0_1 : Nat) (l0_1 : List (S55)) (a0_2 : ByteArray) (a0_3 : ByteArray) (r1 : Bool) (r2 : List (S77)) (r3 : ByteArray) (r4 : ByteArray) (w : World) (hr0_1 : Kd.C k55 w A0_1 l0_1.length l0_1) (hc0_1 : l0_1.length ≤ c0_1) (h : impl_like.f k a0_0 l0_1 a0_2 a0_3 = some (r1, r2, r3, r4)) :
 Calls Tryz.prog 19 #[.agg #[.bool a0_0, .slice A0_1 l0_1.length c0_1, .string a0_2, .string a0_3]] w fun e w' => ∃ v1_ : Value, e = .returned (.agg #[.bool r1, v1_, .string r3, .string r4]) ∧ Kd.R k77 77 w' w.heap.size (fun _ => True) v1_ r2 ∧ Below w.heap.size w w' := by
 have hu24 := Tryz.underlying24
 have hu48 := Tryz.underlying48
 have HR0_1 := Aside0.mk hr0_1
 have HC0_1 := Aside0.mk hc0_1
 clear hr0_1 hc0_1
 have HB := Aside0.mk (Below.refl w.heap.size w)
 have H : ((impl_bigs.f k l0_1).bind fun t190 => (some (a0_0, t190, a0_2, a0_3))) = some (r1, r2, r3, r4) := h
 clear h
 replace H := Option.bind_eq_some_iff.mp H
 obtain ⟨t190, A20, H⟩ := H
 replace H : (some (a0_0, t190, a0_2, a0_3)) = some (r1, r2, r3, r4) := H
 have A2 := Aside0.mk A20
 clear A20
 simp only [Option.some.injEq, Prod.mk.injEq] at H
 obtain ⟨rfl, rfl, rfl, rfl⟩ := H
 go_enter Tryz.func19, Tryz.ntmps19
 try go_wp2_with (first | ((with_reducible refine gate_dst (N := 1) rfl ?_); refine box_event ?hg (N := 1) ?hd (cs := #[.bool a0_0, .slice A0_1 l0_1.length c0_1, .string a0_2, .string a0_3]) (t := 24) ?hr ?_; (case hd => rfl); (case hg => rfl); (case hr => first | (go_simp; done) | (go_simp; rfl)); intro gb188 hg w3 hbox hb; have n0_ := Aside0.mk (below_step (by repeat (first | (with_reducible first | exact HB.out | apply below_alloc | apply pw_below_drewN | apply below_drew1) | exact HB.out)) hb); have n1_ := Aside0.mk (hbox); have n2_ := Aside0.mk ((by rw [hg]; exact (below_size (by repeat (first | (with_reducible first | exact HB.out | apply below_alloc | apply pw_below_drewN | apply below_drew1) | exact HB.out))) : w.heap.size ≤ gb188)); have n3_ := Aside0.mk ((by rw [hg]; exact (below_size (by repeat (first | (with_reducible first | exact HB.out | apply below_alloc | apply pw_below_drewN | apply below_drew1) | exact HB.out))) : w.heap.size ≤ gb188)); clear HB; have HB := n0_; have BK188 := n1_; have GW188 := n2_; have GE188 := n3_; clear n0_ n1_ n2_ n3_; clear hb hbox hg) | ((with_reducible refine gate_dst (N := 2) rfl ?_); refine box_event ?hg (N := 2) ?hd (cs := #[.bool false, .slice none 0 0, .string (⟨#[]⟩ : ByteArray), .string (⟨#[]⟩ : ByteArray)]) (t := 48) ?hr ?_; (case hd => rfl); (case hg => rfl); (case hr => first | (go_simp; done) | (go_simp; rfl)); intro gb189 hg w4 hbox hb; have n0_ := Aside0.mk (blk_below (g := gb188) (o := .cells #[.bool a0_0, .slice A0_1 l0_1.length c0_1, .string a0_2, .string a0_3] 24 (0, 0)) (by (with_reducible repeat (first | refine blk_drewN ?_ _ | refine blk_drew ?_ | refine blk_alloc ?_ _)); exact BK188.out) hb); have n1_ := Aside0.mk (below_step (by repeat (first | (with_reducible first | exact HB.out | apply below_alloc | apply pw_below_drewN | apply below_drew1 | refine below_set ?_ GE188.out) | exact HB.out)) hb); have n2_ := Aside0.mk (hbox); have n3_ := Aside0.mk ((by rw [hg]; exact (below_size (by repeat (first | (with_reducible first | exact HB.out | apply below_alloc | apply pw_below_drewN | apply below_drew1 | refine below_set ?_ GE188.out) | exact HB.out))) : w.heap.size ≤ gb189)); have n4_ := Aside0.mk ((by rw [hg]; exact (below_size (by repeat (first | (with_reducible first | exact HB.out | apply below_alloc | apply pw_below_drewN | apply below_drew1 | refine below_set ?_ GE188.out) | exact HB.out))) : w.heap.size ≤ gb189)); have n5_ := Aside0.mk ((by rw [hg]; exact Nat.ne_of_lt (blk_lt (g := gb188) (o := .cells #[.bool a0_0, .slice A0_1 l0_1.length c0_1, .string a0_2, .string a0_3] 24 (0, 0)) (by (with_reducible repeat (first | refine blk_drewN ?_ _ | refine blk_drew ?_ | refine blk_alloc ?_ _)); exact BK188.out)) : gb188 ≠ gb189)); have n6_ := Aside0.mk ((by rw [hg]; exact Nat.ne_of_gt (blk_lt (g := gb188) (o := .cells #[.bool a0_0, .slice A0_1 l0_1.length c0_1, .string a0_2, .string a0_3] 24 (0, 0)) (by (with_reducible repeat (first | refine blk_drewN ?_ _ | refine blk_drew ?_ | refine blk_alloc ?_ _)); exact BK188.out)) : gb189 ≠ gb188)); clear BK188; clear HB; have BK188 := n0_; have HB := n1_; have BK189 := n2_; have GW189 := n3_; have GE189 := n4_; have NB188_189 := n5_; have NB189_188 := n6_; clear n0_ n1_ n2_ n3_ n4_ n5_ n6_; clear hb hbox hg))
 have n0_ := Aside0.mk (blk_drew BK188.out)
 have n1_ := Aside0.mk (blk_drew BK189.out)
 have n2_ := Aside0.mk (below_drew1 HB.out)
 clear BK188
 clear BK189
 clear HB
 have BK188 := n0_
 have BK189 := n1_
 have HB := n2_
 clear n0_ n1_ n2_
 refine start_ (n := 11) (S := fun w' => w'.cell? ⟨gb188, 0, none⟩ = some (.bool a0_0) ∧ w'.cell? ⟨gb188, 1, none⟩ = some (.slice A0_1 l0_1.length c0_1) ∧ w'.cell? ⟨gb188, 2, none⟩ = some (.string a0_2) ∧ w'.cell? ⟨gb188, 3, none⟩ = some (.string a0_3)) (ds := []) #[false, false, false, false, false, false, false, false, false, false, false] (by kernel_rfl) rfl rfl ⟨(blk_cell BK188.out 0).trans rfl, (blk_cell BK188.out 1).trans rfl, (blk_cell BK188.out 2).trans rfl, (blk_cell BK188.out 3).trans rfl⟩ (fun hHeld => ?_); refine with_tabW impl_like.tab1 impl_like.bits1 (fun HT_ HW_ => ?_)
 generalize w4.drew = w5 at BK188 BK189 HB hHeld ⊢
 refine pure_ (i := 0) (N := some 3) (v := ?_) (a' := ?_) #[true, false, false, false, false, false, false, false, false, false, false] rfl rfl (any_of HT_.out (by kernel_rfl)) (fun _ _ _ h => h) (Or.inl ⟨by rfl, ?_⟩) ?_ ?_
 rotate_left
 · intro w'
   go_simp
   with_reducible rfl
 rotate_left
 · simp only [Act.put, List.setIfInBounds_toArray, List.set_cons_zero, List.set_cons_succ, i64_w, i32_w]
   rfl
 refine pure_ (i := 2) (N := some 5) (v := ?_) (a' := ?_) #[true, false, true, false, false, false, false, false, false, false, false] rfl rfl (any_of HT_.out (by kernel_rfl)) (fun _ _ _ h => h) (Or.inl ⟨by rfl, ?_⟩) ?_ ?_
 rotate_left
 · intro w'
   go_simp
   with_reducible rfl
 rotate_left
 · simp only [Act.put, List.setIfInBounds_toArray, List.set_cons_zero, List.set_cons_succ, i64_w, i32_w]
   rfl
 refine pure_ (i := 5) (N := some 8) (v := ?_) (a' := ?_) #[true, false, true, false, false, true, false, false, false, false, false] rfl rfl (any_of HT_.out (by kernel_rfl)) (fun _ _ _ h => h) (Or.inl ⟨by rfl, ?_⟩) ?_ ?_
 rotate_left
 · intro w'
   go_simp
   with_reducible rfl
 rotate_left
 · simp only [Act.put, List.setIfInBounds_toArray, List.set_cons_zero, List.set_cons_succ, i64_w, i32_w]
   rfl
 refine pure_ (i := 7) (N := some 10) (v := ?_) (a' := ?_) #[true, false, true, false, false, true, false, true, false, false, false] rfl rfl (any_of HT_.out (by kernel_rfl)) (fun _ _ _ h => h) (Or.inl ⟨by rfl, ?_⟩) ?_ ?_
 rotate_left
 · intro w'
   go_simp
   with_reducible rfl
 rotate_left
 · simp only [Act.put, List.setIfInBounds_toArray, List.set_cons_zero, List.set_cons_succ, i64_w, i32_w]
   rfl
 refine take_ (i := 1) (N := some 4) (v := ?_) (a' := ?_) #[true, true, true, false, false, true, false, true, false, false, false] rfl rfl (take_ofW HT_.out HW_.out (by kernel_rfl)) (fun _ _ _ h => h) (Or.inl ⟨by rfl, ?_⟩) hHeld ?_ ?_
 rotate_left
 · rintro w' ⟨s0, s1, s2, s3⟩
   go_simp
   with_reducible rfl
 rotate_left
 · simp only [Act.put, List.setIfInBounds_toArray, List.set_cons_zero, List.set_cons_succ, i64_w, i32_w]
   rfl
 refine take_ (i := 3) (N := some 6) (v := ?_) (a' := ?_) #[true, true, true, true, false, true, false, true, false, false, false] rfl rfl (take_ofW HT_.out HW_.out (by kernel_rfl)) (fun _ _ _ h => h) (Or.inl ⟨by rfl, ?_⟩) hHeld ?_ ?_
 rotate_left
 · rintro w' ⟨s0, s1, s2, s3⟩
   go_simp
   with_reducible rfl
 rotate_left
 · simp only [Act.put, List.setIfInBounds_toArray, List.set_cons_zero, List.set_cons_succ, i64_w, i32_w]
   rfl
 refine take_ (i := 6) (N := some 9) (v := ?_) (a' := ?_) #[true, true, true, true, false, true, true, true, false, false, false] rfl rfl (take_ofW HT_.out HW_.out (by kernel_rfl)) (fun _ _ _ h => h) (Or.inl ⟨by rfl, ?_⟩) hHeld ?_ ?_
 rotate_left
 · rintro w' ⟨s0, s1, s2, s3⟩
   go_simp
   with_reducible rfl
 rotate_left
 · simp only [Act.put, List.setIfInBounds_toArray, List.set_cons_zero, List.set_cons_succ, i64_w, i32_w]
   rfl
 refine take_ (i := 8) (N := some 11) (v := ?_) (a' := ?_) #[true, true, true, true, false, true, true, true, true, false, false] rfl rfl (take_ofW HT_.out HW_.out (by kernel_rfl)) (fun _ _ _ h => h) (Or.inl ⟨by rfl, ?_⟩) hHeld ?_ ?_
 rotate_left
 · rintro w' ⟨s0, s1, s2, s3⟩
   go_simp
   with_reducible rfl
 rotate_left
 · simp only [Act.put, List.setIfInBounds_toArray, List.set_cons_zero, List.set_cons_succ, i64_w, i32_w]
   rfl
 refine one_ (i := 4) (N := some 7) #[true, true, true, true, true, true, true, true, true, false, false] rfl rfl (one_of HT_.out (by kernel_rfl)) (by decide) (fun K hK => ?_)
 refine goes_ Tryz.func32 (by kernel_rfl) rfl #[.slice A0_1 l0_1.length c0_1] (by rfl) rfl rfl (by (try simp only [List.map_toArray, List.map_cons, List.map_nil]); first | done | rfl | (simp only [List.length_drop, List.length_take]; rfl)) ?_
 with_reducible refine (impl_bigs.calls k _ _ l0_1 t190 _ ?side1 ?side2 A2.out).mono ?_
 (case side1 => repeat (first | exact (Kd.C_below HR0_1.out HB.out) | (with_reducible refine Kd.C_alloc ?_ _) | (with_reducible refine Kd.C_drewN ?_ _) | (with_reducible refine Kd.C_drew ?_)))
 (case side2 => exact HC0_1.out)
 rintro e w6 ⟨v191, rfl, ho0, hb⟩
 refine ⟨_, rfl, ?_⟩
 have n0_ := Aside0.mk (Kd.R_lower ho0 (below_size (by repeat (first | (with_reducible first | exact HB.out | apply below_alloc | apply pw_below_drewN | apply below_drew1 | refine below_set ?_ GE188.out | refine below_set ?_ GE189.out) | exact HB.out))))
 have n1_ := Aside0.mk (blk_below (g := gb188) (o := .cells #[.bool a0_0, .slice A0_1 l0_1.length c0_1, .string a0_2, .string a0_3] 24 (0, 0)) (by (with_reducible repeat (first | refine blk_drewN ?_ _ | refine blk_drew ?_ | refine blk_alloc ?_ _)); exact BK188.out) hb)
 have n2_ := Aside0.mk (blk_below (g := gb189) (o := .cells #[.bool false, .slice none 0 0, .string (⟨#[]⟩ : ByteArray), .string (⟨#[]⟩ : ByteArray)] 48 (0, 0)) (by (with_reducible repeat (first | refine blk_drewN ?_ _ | refine blk_drew ?_ | refine blk_alloc ?_ _)); exact BK189.out) hb)
 have n3_ := Aside0.mk (below_step (by repeat (first | (with_reducible first | exact HB.out | apply below_alloc | apply pw_below_drewN | apply below_drew1 | refine below_set ?_ GE188.out | refine below_set ?_ GE189.out) | exact HB.out)) hb)
 clear BK188
 clear BK189
 clear HB
 have HO192 := n0_
 have BK188 := n1_
 have BK189 := n2_
 have HB := n3_
 clear n0_ n1_ n2_ n3_
 (try clear hb)
 (try clear hb2)
 (try clear hk)
 (try clear hi)
 (try clear ho0)
 obtain ⟨Ao7, co7, eo7⟩ := Kd.R_slice HO192.out
 (first | subst eo7 | (injection eo7 with f1_ f2_ f3_; have f4_ := f1_.symm; have f5_ := f3_.symm; clear f1_ f2_ f3_; subst f4_; subst f5_))
 refine hK.out _ _ ⟨(blk_cell BK188.out 0).trans rfl, (blk_cell BK188.out 1).trans rfl, (blk_cell BK188.out 2).trans rfl, (blk_cell BK188.out 3).trans rfl⟩ (fun hHeld => ?_)
 clear hK K
 refine norm_ (a' := ?_) ?_ ?_
 rotate_left
 · show Act.put _ (some 7) _ = _
   simp only [Act.put, List.setIfInBounds_toArray, List.set_cons_zero, List.set_cons_succ, i64_w, i32_w]
   rfl
 refine pure_ (i := 9) (N := some 12) (v := ?_) (a' := ?_) #[true, true, true, true, true, true, true, true, true, true, false] rfl rfl (any_of HT_.out (by kernel_rfl)) (fun _ _ _ h => h) (Or.inl ⟨by rfl, ?_⟩) ?_ ?_
 rotate_left
 · intro w'
   go_simp
   with_reducible rfl
 rotate_left
 · simp only [Act.put, List.setIfInBounds_toArray, List.set_cons_zero, List.set_cons_succ, i64_w, i32_w]
   rfl
 refine one_ (i := 10) (N := none) #[true, true, true, true, true, true, true, true, true, true, true] rfl rfl (one_of HT_.out (by kernel_rfl)) (by decide) (fun K hK => ?_)
 have hs8 : w6.cell? ⟨gb189, 0, none⟩ = some (.bool false) := (blk_cell BK189.out 0).trans rfl
 have hfs8 := blk_frozen BK189.out 0
 have hns8_0 := NB188_189.out
 have hms8_0 := NB189_188.out
 have hs9 : w6.cell? ⟨gb189, 1, none⟩ = some (.slice none 0 0) := (blk_cell BK189.out 1).trans rfl
 have hfs9 := blk_frozen BK189.out 1
 have hns9_0 := NB188_189.out
 have hms9_0 := NB189_188.out
 have hs10 : w6.cell? ⟨gb189, 2, none⟩ = some (.string (⟨#[]⟩ : ByteArray)) := (blk_cell BK189.out 2).trans rfl
 have hfs10 := blk_frozen BK189.out 2
 have hns10_0 := NB188_189.out
 have hms10_0 := NB189_188.out
 have hs11 : w6.cell? ⟨gb189, 3, none⟩ = some (.string (⟨#[]⟩ : ByteArray)) := (blk_cell BK189.out 3).trans rfl
 have hfs11 := blk_frozen BK189.out 3
 have hns11_0 := NB188_189.out
 have hms11_0 := NB189_188.out
 refine skip_ (w1 := ?_) (by rfl) rfl ?_ ?_
 rotate_left
 · go_simp
   rfl
 refine hK.out _ _ ⟨((cell_far (p := ⟨gb189, _, none⟩) NB188_189.out _).trans (((cell_far (p := ⟨gb189, _, none⟩) NB188_189.out _).trans (((cell_far (p := ⟨gb189, _, none⟩) NB188_189.out _).trans (((cell_far (p := ⟨gb189, _, none⟩) NB188_189.out _).trans (hHeld.1)))))))), ((cell_far (p := ⟨gb189, _, none⟩) NB188_189.out _).trans (((cell_far (p := ⟨gb189, _, none⟩) NB188_189.out _).trans (((cell_far (p := ⟨gb189, _, none⟩) NB188_189.out _).trans (((cell_far (p := ⟨gb189, _, none⟩) NB188_189.out _).trans (hHeld.2.1)))))))), ((cell_far (p := ⟨gb189, _, none⟩) NB188_189.out _).trans (((cell_far (p := ⟨gb189, _, none⟩) NB188_189.out _).trans (((cell_far (p := ⟨gb189, _, none⟩) NB188_189.out _).trans (((cell_far (p := ⟨gb189, _, none⟩) NB188_189.out _).trans (hHeld.2.2.1)))))))), ((cell_far (p := ⟨gb189, _, none⟩) NB188_189.out _).trans (((cell_far (p := ⟨gb189, _, none⟩) NB188_189.out _).trans (((cell_far (p := ⟨gb189, _, none⟩) NB188_189.out _).trans (((cell_far (p := ⟨gb189, _, none⟩) NB188_189.out _).trans (hHeld.2.2.2))))))))⟩ (fun hHeld => ?_)
 clear hK K
 refine done_ (done_of HT_.out (by kernel_rfl)) ?_
 try go_wp2
 refine bodyPost_ret (results_cell_row rfl _ _ gb189 48 #[.bool a0_0, .slice Ao7 t190.length co7, .string a0_2, .string a0_3] (0, 0) _ rfl (by (with_reducible repeat (first | refine blk_drewN ?_ _ | refine blk_drew ?_ | refine blk_alloc ?_ _)); refine blk_put (cs := #[.bool a0_0, .slice Ao7 t190.length co7, .string a0_2, .string (⟨#[]⟩ : ByteArray)]) ?_ 3 _ rfl; (with_reducible repeat (first | refine blk_drewN ?_ _ | refine blk_drew ?_ | refine blk_alloc ?_ _)); refine blk_put (cs := #[.bool a0_0, .slice Ao7 t190.length co7, .string (⟨#[]⟩ : ByteArray), .string (⟨#[]⟩ : ByteArray)]) ?_ 2 _ rfl; (with_reducible repeat (first | refine blk_drewN ?_ _ | refine blk_drew ?_ | refine blk_alloc ?_ _)); refine blk_put (cs := #[.bool a0_0, .slice none 0 0, .string (⟨#[]⟩ : ByteArray), .string (⟨#[]⟩ : ByteArray)]) ?_ 1 _ rfl; (with_reducible repeat (first | refine blk_drewN ?_ _ | refine blk_drew ?_ | refine blk_alloc ?_ _)); refine blk_put (cs := #[.bool false, .slice none 0 0, .string (⟨#[]⟩ : ByteArray), .string (⟨#[]⟩ : ByteArray)]) ?_ 0 _ rfl; (with_reducible repeat (first | refine blk_drewN ?_ _ | refine blk_drew ?_ | refine blk_alloc ?_ _)); exact BK189.out) Tryz.underlying48 rfl (by kernel_rfl)) rfl ?_
 exact ⟨_, by first | rfl | (simp [errW_none, errW_some] <;> rfl) | (simp [*, errW_none, errW_some] <;> rfl) | (simp [bne_nil_]; done), by (with_reducible repeat (first | apply Kd.R_alloc | apply Kd.R_drewN | apply Kd.R_drew)); exact Kd.R_mono (Kd.R_far (p := ⟨gb189, 3, none⟩) (Kd.R_far (p := ⟨gb189, 2, none⟩) (Kd.R_far (p := ⟨gb189, 1, none⟩) (Kd.R_far (p := ⟨gb189, 0, none⟩) (Kd.R_types HO192.out BK189.out (by decide)) (fun _ hk => hk.2) (.bool a0_0)) (fun _ hk => hk.2) (.slice Ao7 t190.length co7)) (fun _ hk => hk.2) (.string a0_2)) (fun _ hk => hk.2) (.string a0_3)) (fun _ hk => trivial), by repeat (first | (with_reducible first | exact HB.out | apply below_alloc | apply pw_below_drewN | apply below_drew1 | refine below_set ?_ GE188.out | refine below_set ?_ GE189.out) | exact HB.out)⟩

-- LEFT OUT: function 67

-- NOT PRINTED: function 52 (semantic_components_Fetch)

-- LEFT OUT: function 68

-- LEFT OUT: function 53

-- NOT PRINTED: function 42 (semantic_components_Cmp)

/-! ### semantic_zzIndex: function 72 -/
def semantic_zzIndex.l0 : Nat → ByteArray → ByteArray → Int → Option (Int)
 | 0, _, _, _ => none
 | k + 1, x0, x1, x5 => if (wrap64 (x5 + (x1.size : Int))) ≤ (x0.size : Int) then (if 0 ≤ x5 then (if x5 ≤ (wrap64 (x5 + (x1.size : Int))) then (if (x0.extract (x5 : Int).toNat ((wrap64 (x5 + (x1.size : Int))) : Int).toNat).toList = x1.toList then (some x5) else (semantic_zzIndex.l0 k x0 x1 (wrap64 (x5 + 1)))) else (none)) else (none)) else (some (-1))
def semantic_zzIndex.f (k : Nat) (a0 : ByteArray) (a1 : ByteArray) : Option (Int) := semantic_zzIndex.l0 k a0 a1 0
theorem semantic_zzIndex.mono_l : ∀ k, (∀ y0 y1 y2, LeO (semantic_zzIndex.l0 k y0 y1 y2) (semantic_zzIndex.l0 (k + 1) y0 y1 y2))
 | 0 => fun _ _ _ r h => by simp [semantic_zzIndex.l0] at h
 | k + 1 => by
  have ih0 := semantic_zzIndex.mono_l k
  · intro y0 y1 y2
    unfold semantic_zzIndex.l0
    repeat' first
    | (with_reducible exact ih0 _ _ _)
    | (with_reducible exact LeO.refl _)
    | (with_reducible exact LeO.none _)
    | (with_reducible refine LeO.ite ?_ ?_)
    | (with_reducible refine LeO.bind ?_ (fun _ => ?_))
    | exact ih0 _ _ _
    | exact LeO.none _
    | refine LeO.ite ?_ ?_
    | refine LeO.bind ?_ (fun _ => ?_)
theorem semantic_zzIndex.mono : ∀ a0 a1 k, LeO (semantic_zzIndex.f k a0 a1) (semantic_zzIndex.f (k + 1) a0 a1) := by
 intro a0 a1 k
 have ih0 := semantic_zzIndex.mono_l k
 unfold semantic_zzIndex.f
 repeat' first
  | (with_reducible exact ih0 _ _ _)
  | (with_reducible exact LeO.refl _)
  | (with_reducible exact LeO.none _)
  | (with_reducible refine LeO.ite ?_ ?_)
  | (with_reducible refine LeO.bind ?_ (fun _ => ?_))
  | exact ih0 _ _ _
  | exact LeO.none _
  | refine LeO.ite ?_ ?_
  | refine LeO.bind ?_ (fun _ => ?_)
set_option maxHeartbeats 8000000 in
set_option maxRecDepth 100000 in
theorem semantic_zzIndex.calls (k : Nat) (a0 : ByteArray) (a1 : ByteArray) (r : Int) (w : World) (h : semantic_zzIndex.f k a0 a1 = some r) :
 Calls Tryz.prog 72 #[.string a0, .string a1] w fun e w' => e = .returned (.int .i64 r) ∧ Drawn0 w w' := by
 have H : (semantic_zzIndex.l0 k a0 a1 0) = some r := h
 clear h
 have H' := Aside0.mk H
 clear H
 go_enter Tryz.func72, Tryz.ntmps72
 go_wp2
 go_loopg [5] k (fun kq v5 w' => ∃ (x5_1 : Int), v5 = .int .i64 x5_1 ∧ Aside0 (semantic_zzIndex.l0 kq a0 a1 x5_1 = some r) ∧ Aside0 (kq ≤ k) ∧ Drawn0 w w')
 case atStart => exact ⟨(0), (by first | rfl | (simp; done) | (simp [*]; done) | (simp [bne_nil_]; done)), H', ⟨Nat.le_refl _⟩, by repeat (first | exact Drawn0.refl _ | apply Drawn0.step)⟩
 case round =>
  clear H'
  try clear p2
  obtain ⟨x5_1, rfl, HA, HK1, ⟨m1, rfl⟩⟩ := hrel
  cases gk with
  | zero => exact absurd HA.out (by simp [semantic_zzIndex.l0])
  | succ k1 =>
   have H := HA.out
   clear HA
   simp only [semantic_zzIndex.l0] at H
   by_cases c3 : (wrap64 (x5_1 + (a1.size : Int))) ≤ (a0.size : Int)
   · rw [if_pos c3] at H
     have c3b0 : decide ((wrap64 (x5_1 + (a1.size : Int))) ≤ (a0.size : Int)) = true := decide_eq_true c3
     clear c3
     by_cases c4 : 0 ≤ x5_1
     · rw [if_pos c4] at H
       have c4b0 := eq_true c4
       have c4b1 : decide (0 ≤ x5_1) = true := decide_eq_true c4
       clear c4
       by_cases c5 : x5_1 ≤ (wrap64 (x5_1 + (a1.size : Int)))
       · rw [if_pos c5] at H
         have c5b0 := eq_true c5
         have c5b1 : decide (x5_1 ≤ (wrap64 (x5_1 + (a1.size : Int)))) = true := decide_eq_true c5
         have c6b0 := eq_true (of_decide_eq_true (by first | (with_reducible assumption) | assumption) : (wrap64 (x5_1 + (a1.size : Int))) ≤ (a0.size : Int))
         by_cases c7 : (a0.extract (x5_1 : Int).toNat ((wrap64 (x5_1 + (a1.size : Int))) : Int).toNat).toList = a1.toList
         · rw [if_pos c7] at H
           (try (have c7bz := c7; simp only [ByteArray.size_extract, Nat.min_self] at c7bz; replace c7bz := decide_eq_true c7bz))
           have c7b0 : ((a0.extract (x5_1 : Int).toNat ((wrap64 (x5_1 + (a1.size : Int))) : Int).toNat).toList == a1.toList) = true := beq_iff_eq.mpr c7
           have c7b1 : ((a0.extract (x5_1 : Int).toNat ((wrap64 (x5_1 + (a1.size : Int))) : Int).toNat).toList != a1.toList) = false := bne_eq_false_iff_eq.mpr c7
           clear c7
           obtain rfl := Option.some.inj H
           go_wp2
           go_ret
           exact ⟨by first | rfl | (simp; done) | (simp [*]; done) | (simp [bne_nil_]; done), by repeat (first | exact Drawn0.refl _ | apply Drawn0.step)⟩
         · rw [if_neg c7] at H
           (try (have c7bz := c7; simp only [ByteArray.size_extract, Nat.min_self] at c7bz; replace c7bz := decide_eq_false c7bz))
           have c7b0 : ((a0.extract (x5_1 : Int).toNat ((wrap64 (x5_1 + (a1.size : Int))) : Int).toNat).toList == a1.toList) = false := beq_eq_false_iff_ne.mpr c7
           have c7b1 : ((a0.extract (x5_1 : Int).toNat ((wrap64 (x5_1 + (a1.size : Int))) : Int).toNat).toList != a1.toList) = true := bne_iff_ne.mpr c7
           have H' := Aside0.mk H
           clear H
           go_wp2
           go_roundg k1
           case measure => have := HK1.out; omega
           case rel => exact ⟨(wrap64 (x5_1 + 1)), (by first | rfl | (simp; done) | (simp [*]; done) | (simp [bne_nil_]; done)), H', ⟨by have := HK1.out; omega⟩, by repeat (first | exact Drawn0.refl _ | apply Drawn0.step)⟩
       · rw [if_neg c5] at H
         exact absurd H (by simp)
     · rw [if_neg c4] at H
       exact absurd H (by simp)
   · rw [if_neg c3] at H
     have c3b0 : decide ((wrap64 (x5_1 + (a1.size : Int))) ≤ (a0.size : Int)) = false := decide_eq_false c3
     clear c3
     obtain rfl := Option.some.inj H
     go_wp2
     go_ret
     exact ⟨by first | rfl | (simp; done) | (simp [*]; done) | (simp [bne_nil_]; done), by repeat (first | exact Drawn0.refl _ | apply Drawn0.step)⟩

/-! ### semantic_zzSplit: function 57 -/
def semantic_zzSplit.l1 : Nat → ByteArray → ByteArray → List ByteArray → Option (List ByteArray)
 | 0, _, _, _ => none
 | k + 1, x0, x1, x5 => (semantic_zzIndex.f k x0 x1).bind fun t193 => (if t193 < 0 then (if x5.length < 8796093022208 then (some (x5 ++ [x0])) else (none)) else (if 0 ≤ t193 then (if t193 ≤ (x0.size : Int) then (if x5.length < 8796093022208 then (if 0 ≤ (wrap64 (t193 + (x1.size : Int))) then (if (wrap64 (t193 + (x1.size : Int))) ≤ (x0.size : Int) then (semantic_zzSplit.l1 k (x0.extract ((wrap64 (t193 + (x1.size : Int))) : Int).toNat x0.size) x1 (x5 ++ [x0.extract 0 (t193 : Int).toNat])) else (none)) else (none)) else (none)) else (none)) else (none)))
def semantic_zzSplit.f (k : Nat) (a0 : ByteArray) (a1 : ByteArray) : Option (List ByteArray) := if (a1.size : Int) = 0 then (none) else (semantic_zzSplit.l1 k a0 a1 ([] : List ByteArray))
theorem semantic_zzSplit.mono_l : ∀ k, (∀ y0 y1 y2, LeO (semantic_zzSplit.l1 k y0 y1 y2) (semantic_zzSplit.l1 (k + 1) y0 y1 y2))
 | 0 => fun _ _ _ r h => by simp [semantic_zzSplit.l1] at h
 | k + 1 => by
  have ih0 := semantic_zzSplit.mono_l k
  · intro y0 y1 y2
    unfold semantic_zzSplit.l1
    repeat' first
    | (with_reducible exact ih0 _ _ _)
    | (with_reducible exact semantic_zzIndex.mono _ _ _)
    | (with_reducible exact LeO.refl _)
    | (with_reducible exact LeO.none _)
    | (with_reducible refine LeO.ite ?_ ?_)
    | (with_reducible refine LeO.bind ?_ (fun _ => ?_))
    | exact ih0 _ _ _
    | exact semantic_zzIndex.mono _ _ _
    | exact LeO.none _
    | refine LeO.ite ?_ ?_
    | refine LeO.bind ?_ (fun _ => ?_)
theorem semantic_zzSplit.mono : ∀ a0 a1 k, LeO (semantic_zzSplit.f k a0 a1) (semantic_zzSplit.f (k + 1) a0 a1) := by
 intro a0 a1 k
 have ih0 := semantic_zzSplit.mono_l k
 unfold semantic_zzSplit.f
 repeat' first
  | (with_reducible exact ih0 _ _ _)
  | (with_reducible exact semantic_zzIndex.mono _ _ _)
  | (with_reducible exact LeO.refl _)
  | (with_reducible exact LeO.none _)
  | (with_reducible refine LeO.ite ?_ ?_)
  | (with_reducible refine LeO.bind ?_ (fun _ => ?_))
  | exact ih0 _ _ _
  | exact semantic_zzIndex.mono _ _ _
  | exact LeO.none _
  | refine LeO.ite ?_ ?_
  | refine LeO.bind ?_ (fun _ => ?_)
set_option maxHeartbeats 8000000 in
set_option maxRecDepth 100000 in
theorem semantic_zzSplit.calls (k : Nat) (a0 : ByteArray) (a1 : ByteArray) (r : List ByteArray) (w : World) (h : semantic_zzSplit.f k a0 a1 = some r) :
 Calls Tryz.prog 57 #[.string a0, .string a1] w fun e w' => ∃ v0_ : Value, e = .returned (v0_) ∧ Kd.R Kd.string 9 w' w.heap.size (fun _ => True) v0_ r ∧ Below w.heap.size w w' := by
 have HB := Aside0.mk (Below.refl w.heap.size w)
 have H : (if (a1.size : Int) = 0 then (none) else (semantic_zzSplit.l1 k a0 a1 ([] : List ByteArray))) = some r := h
 clear h
 by_cases c3 : (a1.size : Int) = 0
 · rw [if_pos c3] at H
   exact absurd H (by simp)
 · rw [if_neg c3] at H
   have c3b0 : ((a1.size : Int) == 0) = false := beq_eq_false_iff_ne.mpr c3
   have c3b1 : ((a1.size : Int) != 0) = true := bne_iff_ne.mpr c3
   have H' := Aside0.mk H
   clear H
   go_enter Tryz.func57, Tryz.ntmps57
   go_wp2
   go_loopg [0, 5] k (fun kq v0 v5 w' => ∃ (x0_1 : ByteArray) (x5_1 : List ByteArray), v0 = .string x0_1 ∧ Aside0 (semantic_zzSplit.l1 kq x0_1 a1 x5_1 = some r) ∧ Aside0 (kq ≤ k) ∧ Aside0 (Kd.R Kd.string 9 w' w.heap.size (fun _ => True) v5 x5_1) ∧ Aside0 (Below w.heap.size w w'))
   case atStart => exact ⟨(a0), (([] : List ByteArray)), (by first | rfl | (simp; done) | (simp [*]; done) | (simp [bne_nil_]; done)), H', ⟨Nat.le_refl _⟩, ⟨by first | exact Kd.R_nil _ _ _ _ _ | exact Kd.N_nil _ _ _ _ _ | exact Kd.V_nil _ _ _ _ _ | exact Kd.Q_nil _ _ _ _ _ | exact Kd.S_nil _ _ _ _ _⟩, ⟨by repeat (first | (with_reducible first | exact HB.out | apply below_alloc | apply pw_below_drewN | apply below_drew1) | exact HB.out)⟩⟩
   case round =>
    clear H'
    try clear p2
    try clear c3
    try clear c3b0
    try clear c3b1
    obtain ⟨x0_1, x5_1, rfl, HA, HK1, HO_5, HB⟩ := hrel
    cases gk with
    | zero => exact absurd HA.out (by simp [semantic_zzSplit.l1])
    | succ k1 =>
     have H := HA.out
     clear HA
     simp only [semantic_zzSplit.l1] at H
     replace H := Option.bind_eq_some_iff.mp H
     obtain ⟨t193, A40, H⟩ := H
     replace H : (if t193 < 0 then (if x5_1.length < 8796093022208 then (some (x5_1 ++ [x0_1])) else (none)) else (if 0 ≤ t193 then (if t193 ≤ (x0_1.size : Int) then (if x5_1.length < 8796093022208 then (if 0 ≤ (wrap64 (t193 + (a1.size : Int))) then (if (wrap64 (t193 + (a1.size : Int))) ≤ (x0_1.size : Int) then (semantic_zzSplit.l1 k1 (x0_1.extract ((wrap64 (t193 + (a1.size : Int))) : Int).toNat x0_1.size) a1 (x5_1 ++ [x0_1.extract 0 (t193 : Int).toNat])) else (none)) else (none)) else (none)) else (none)) else (none))) = some r := H
     have A4 := Aside0.mk A40
     clear A40
     by_cases c5 : t193 < 0
     · rw [if_pos c5] at H
       have c5b0 : decide (t193 < 0) = true := decide_eq_true c5
       clear c5
       by_cases c6 : x5_1.length < 8796093022208
       · rw [if_pos c6] at H
         have LMc6 := Aside0.mk c6
         clear c6
         obtain ⟨y194, hy194⟩ : ∃ y_ : List ByteArray, y_ = (x5_1 ++ [x0_1]) := ⟨_, rfl⟩
         replace H : (some y194) = some r := by first | (rw [hy194]; with_reducible exact H) | (have H2_ := (Option.bind_some _ _).symm.trans H; rw [hy194]; with_reducible exact H2_) | (have H2_ := (Option.bind_some _ _).symm.trans H; with_reducible exact H2_) | with_reducible exact H | (rw [hy194]; exact H) | exact H
         have Ny194 := Aside0.mk hy194
         clear hy194
         obtain rfl := Option.some.inj H
         go_wp2_with (first | ((with_reducible refine gate_callee (f := 72) rfl ?_); refine goesL_ (some 39) rfl rfl Tryz.func72 (by kernel_rfl) rfl #[.string x0_1, .string a1] rfl (by (try simp only [List.map_toArray, List.map_cons, List.map_nil]); first | done | rfl | (simp only [List.length_drop, List.length_take]; rfl)) ?_; (with_reducible refine (semantic_zzIndex.calls k1 x0_1 a1 t193 _ A4.out).mono ?_); rintro e w' ⟨rfl, ⟨nd, rfl⟩⟩; refine ⟨_, rfl, ?_⟩) | ((with_reducible refine gate_builtin (b := .append) (xs := #[.tmp 42, .tmp 44]) rfl ?_); at_builtin; refine Kd.R_append Kd.string (w0 := w) w.heap.size rfl (.tmp 42) (.tmp 44) 57 9 (.string ⟨#[]⟩) 16 rfl Tryz.underlying57 info9 rfl (by decide) (by omega) u5 x5_1 x0_1 [.string x0_1] (fun _ => True) (fun _ => False) rfl rfl ?aP (fun _ hk => hk.elim) ?aF ?aO ?aB ?aS ?aL ?_; (case aP => exact rfl); (case aB => exact (by repeat (first | (with_reducible first | exact HB.out | apply below_alloc | apply pw_below_drewN | apply below_drew1) | exact HB.out))); (case aF => exact (fun _ _ => trivial)); (case aO => exact (by (with_reducible repeat (first | apply Kd.R_alloc | apply Kd.R_drewN | apply Kd.R_drew)); exact HO_5.out)); (case aS => exact (below_size (by repeat (first | (with_reducible first | exact HB.out | apply below_alloc | apply pw_below_drewN | apply below_drew1) | exact HB.out)))); (case aL => have := LMc6.out; omega); intro v195 w7 ho hb hg hat; rw [← Ny194.out] at ho; have n0_ := Aside0.mk (hb); have n1_ := Aside0.mk (ho); clear HB; clear HO_5; have HB := n0_; have HO196 := n1_; clear n0_ n1_; clear ho hb hg hat))
         go_ret
         exact ⟨_, by first | rfl | (simp [errW_none, errW_some] <;> rfl) | (simp [*, errW_none, errW_some] <;> rfl) | (simp [bne_nil_]; done), by (with_reducible repeat (first | apply Kd.R_alloc | apply Kd.R_drewN | apply Kd.R_drew)); exact HO196.out, by repeat (first | (with_reducible first | exact HB.out | apply below_alloc | apply pw_below_drewN | apply below_drew1) | exact HB.out)⟩
       · rw [if_neg c6] at H
         exact absurd H (by simp)
     · rw [if_neg c5] at H
       have c5b0 : decide (t193 < 0) = false := decide_eq_false c5
       clear c5
       by_cases c8 : 0 ≤ t193
       · rw [if_pos c8] at H
         have c8b0 := eq_true c8
         have c8b1 : decide (0 ≤ t193) = true := decide_eq_true c8
         clear c8
         by_cases c9 : t193 ≤ (x0_1.size : Int)
         · rw [if_pos c9] at H
           have c9b0 := eq_true c9
           have c9b1 : decide (t193 ≤ (x0_1.size : Int)) = true := decide_eq_true c9
           clear c9
           by_cases c10 : x5_1.length < 8796093022208
           · rw [if_pos c10] at H
             have LMc10 := Aside0.mk c10
             clear c10
             obtain ⟨y197, hy197⟩ : ∃ y_ : List ByteArray, y_ = (x5_1 ++ [x0_1.extract 0 (t193 : Int).toNat]) := ⟨_, rfl⟩
             replace H : (if 0 ≤ (wrap64 (t193 + (a1.size : Int))) then (if (wrap64 (t193 + (a1.size : Int))) ≤ (x0_1.size : Int) then (semantic_zzSplit.l1 k1 (x0_1.extract ((wrap64 (t193 + (a1.size : Int))) : Int).toNat x0_1.size) a1 y197) else (none)) else (none)) = some r := by first | (rw [hy197]; with_reducible exact H) | (have H2_ := (Option.bind_some _ _).symm.trans H; rw [hy197]; with_reducible exact H2_) | (have H2_ := (Option.bind_some _ _).symm.trans H; with_reducible exact H2_) | with_reducible exact H | (rw [hy197]; exact H) | exact H
             have Ny197 := Aside0.mk hy197
             clear hy197
             obtain ⟨ji11, hji11⟩ : ∃ j_ : Int, (wrap64 (t193 + (a1.size : Int))) = j_ := ⟨_, rfl⟩
             replace H : (if 0 ≤ (ji11) then (if (ji11) ≤ (x0_1.size : Int) then (semantic_zzSplit.l1 k1 (x0_1.extract ((ji11) : Int).toNat x0_1.size) a1 y197) else (none)) else (none)) = some r := by first | (rw [hji11] at H; exact H) | (simp only [hji11] at H ⊢; exact H)
             (try rw [hji11] at A4)
             have hji11w : (IntKind.i64.wrap (t193 + (a1.size : Int))) = ji11 := (i64_w _).trans hji11
             by_cases c12 : 0 ≤ (ji11)
             · rw [if_pos c12] at H
               have c12b0 := eq_true c12
               have c12b1 : decide (0 ≤ (ji11)) = true := decide_eq_true c12
               clear c12
               by_cases c13 : (ji11) ≤ (x0_1.size : Int)
               · rw [if_pos c13] at H
                 have c13b0 := eq_true c13
                 have c13b1 : decide ((ji11) ≤ (x0_1.size : Int)) = true := decide_eq_true c13
                 clear c13
                 have H' := Aside0.mk H
                 clear H
                 go_wp2_with (first | ((with_reducible refine gate_callee (f := 72) rfl ?_); refine goesL_ (some 39) rfl rfl Tryz.func72 (by kernel_rfl) rfl #[.string x0_1, .string a1] rfl (by (try simp only [List.map_toArray, List.map_cons, List.map_nil]); first | done | rfl | (simp only [List.length_drop, List.length_take]; rfl)) ?_; (with_reducible refine (semantic_zzIndex.calls k1 x0_1 a1 t193 _ A4.out).mono ?_); rintro e w' ⟨rfl, ⟨nd, rfl⟩⟩; refine ⟨_, rfl, ?_⟩) | ((with_reducible refine gate_builtin (b := .append) (xs := #[.tmp 46, .tmp 50]) rfl ?_); at_builtin; refine Kd.R_append Kd.string (w0 := w) w.heap.size rfl (.tmp 46) (.tmp 50) 57 9 (.string ⟨#[]⟩) 16 rfl Tryz.underlying57 info9 rfl (by decide) (by omega) u5 x5_1 (x0_1.extract 0 (t193 : Int).toNat) [.string (x0_1.extract 0 (t193 : Int).toNat)] (fun _ => True) (fun _ => False) rfl rfl ?aP (fun _ hk => hk.elim) ?aF ?aO ?aB ?aS ?aL ?_; (case aP => exact rfl); (case aB => exact (by repeat (first | (with_reducible first | exact HB.out | apply below_alloc | apply pw_below_drewN | apply below_drew1) | exact HB.out))); (case aF => exact (fun _ _ => trivial)); (case aO => exact (by (with_reducible repeat (first | apply Kd.R_alloc | apply Kd.R_drewN | apply Kd.R_drew)); exact HO_5.out)); (case aS => exact (below_size (by repeat (first | (with_reducible first | exact HB.out | apply below_alloc | apply pw_below_drewN | apply below_drew1) | exact HB.out)))); (case aL => have := LMc10.out; omega); intro v198 w14 ho hb hg hat; rw [← Ny197.out] at ho; have n0_ := Aside0.mk (hb); have n1_ := Aside0.mk (ho); clear HB; clear HO_5; have HB := n0_; have HO199 := n1_; clear n0_ n1_; clear ho hb hg hat))
                 go_roundg k1
                 case measure => have := HK1.out; omega
                 case rel => exact ⟨(x0_1.extract ((ji11) : Int).toNat x0_1.size), (y197), (by first | rfl | (simp; done) | (simp only [← hji11] <;> (first | rfl | simp)) | (simp [*]; done)), H', ⟨by have := HK1.out; omega⟩, ⟨by (with_reducible repeat (first | apply Kd.R_alloc | apply Kd.R_drewN | apply Kd.R_drew)); exact HO199.out⟩, ⟨by repeat (first | (with_reducible first | exact HB.out | apply below_alloc | apply pw_below_drewN | apply below_drew1) | exact HB.out)⟩⟩
               · rw [if_neg c13] at H
                 exact absurd H (by simp)
             · rw [if_neg c12] at H
               exact absurd H (by simp)
           · rw [if_neg c10] at H
             exact absurd H (by simp)
         · rw [if_neg c9] at H
           exact absurd H (by simp)
       · rw [if_neg c8] at H
         exact absurd H (by simp)

/-! ### semantic_removeBuildMetadata: function 54 -/
def semantic_removeBuildMetadata.f (k : Nat) (a0 : ByteArray) : Option (ByteArray) := (semantic_zzSplit.f k a0 (⟨#[43]⟩ : ByteArray)).bind fun t200 => (if 0 < (t200.length : Int) then (some (rdOf ByteArray.empty t200 0)) else (none))
theorem semantic_removeBuildMetadata.mono : ∀ a0 k, LeO (semantic_removeBuildMetadata.f k a0) (semantic_removeBuildMetadata.f (k + 1) a0) := by
 intro a0 k
 unfold semantic_removeBuildMetadata.f
 repeat' first
  | (with_reducible exact semantic_zzSplit.mono _ _ _)
  | (with_reducible exact LeO.refl _)
  | (with_reducible exact LeO.none _)
  | (with_reducible refine LeO.ite ?_ ?_)
  | (with_reducible refine LeO.bind ?_ (fun _ => ?_))
  | exact semantic_zzSplit.mono _ _ _
  | exact LeO.none _
  | refine LeO.ite ?_ ?_
  | refine LeO.bind ?_ (fun _ => ?_)
set_option maxHeartbeats 8000000 in
set_option maxRecDepth 100000 in
theorem semantic_removeBuildMetadata.calls (k : Nat) (a0 : ByteArray) (r : ByteArray) (w : World) (h : semantic_removeBuildMetadata.f k a0 = some r) :
 Calls Tryz.prog 54 #[.string a0] w fun e w' => e = .returned (.string r) ∧ Below w.heap.size w w' := by
 have HB := Aside0.mk (Below.refl w.heap.size w)
 have H : ((semantic_zzSplit.f k a0 (⟨#[43]⟩ : ByteArray)).bind fun t200 => (if 0 < (t200.length : Int) then (some (rdOf ByteArray.empty t200 0)) else (none))) = some r := h
 clear h
 replace H := Option.bind_eq_some_iff.mp H
 obtain ⟨t200, A20, H⟩ := H
 replace H : (if 0 < (t200.length : Int) then (some (rdOf ByteArray.empty t200 0)) else (none)) = some r := H
 have A2 := Aside0.mk A20
 clear A20
 by_cases c3 : 0 < (t200.length : Int)
 · rw [if_pos c3] at H
   have c3b0 : decide (0 < (t200.length : Int)) = true := decide_eq_true c3
   have c3b1 : decide (0 < t200.length) = true := decide_eq_true (by omega)
   clear c3
   obtain rfl := Option.some.inj H
   go_enter Tryz.func54, Tryz.ntmps54
   go_wp2_with (first | ((with_reducible refine gate_callee (f := 57) rfl ?_); refine goesL_ (some 5) rfl rfl Tryz.func57 (by kernel_rfl) rfl #[.string a0, .string (⟨#[43]⟩ : ByteArray)] rfl (by (try simp only [List.map_toArray, List.map_cons, List.map_nil]); first | done | rfl | (simp only [List.length_drop, List.length_take]; rfl)) ?_; (with_reducible refine (semantic_zzSplit.calls k a0 (⟨#[43]⟩ : ByteArray) t200 _ A2.out).mono ?_); rintro e w4 ⟨v201, rfl, ho0, hb⟩; refine ⟨_, rfl, ?_⟩; have n0_ := Aside0.mk (Kd.R_lower ho0 (below_size (by repeat (first | (with_reducible first | exact HB.out | apply below_alloc | apply pw_below_drewN | apply below_drew1) | exact HB.out)))); have n1_ := Aside0.mk (below_step (by repeat (first | (with_reducible first | exact HB.out | apply below_alloc | apply pw_below_drewN | apply below_drew1) | exact HB.out)) hb); clear HB; have HO202 := n0_; have HB := n1_; clear n0_ n1_; (try clear hb); (try clear hb2); (try clear hk); (try clear hi); (try clear ho0); obtain ⟨Ao5, co5, eo5⟩ := Kd.R_slice HO202.out; subst eo5; have p203 : 0 ≤ (0 : Int) := (by omega); have q203 : 0 < (t200.length : Int) := of_decide_eq_true (by first | (with_reducible assumption) | assumption); obtain ⟨ad203, e203, hx203_0⟩ := Kd.at_string (Kd.R_reads' HO202.out).2.2 0 p203 q203; cases e203; have qi203 : (0 < t200.length) = True := eq_true (by omega); (try rw [show ((0 : Int)).toNat = 0 from rfl] at hx203_0); (try rw [Addr.add_zero'] at hx203_0); replace p203 := eq_true p203; replace q203 := eq_true q203))
   go_ret
   exact ⟨by first | rfl | (simp [errW_none, errW_some] <;> rfl) | (simp [*, errW_none, errW_some] <;> rfl) | (simp [bne_nil_]; done), by repeat (first | (with_reducible first | exact HB.out | apply below_alloc | apply pw_below_drewN | apply below_drew1) | exact HB.out)⟩
 · rw [if_neg c3] at H
   exact absurd H (by simp)

/-! ### stringslite_HasPrefix: function 82 -/
def stringslite_HasPrefix.f (a0 : ByteArray) (a1 : ByteArray) : Option (Bool) := if (a0.size : Int) ≥ (a1.size : Int) then (if 0 ≤ (a1.size : Int) then (if (a1.size : Int) ≤ (a0.size : Int) then (some ((a0.extract 0 a1.size).toList == a1.toList)) else (none)) else (none)) else (some false)
set_option maxHeartbeats 8000000 in
set_option maxRecDepth 100000 in
theorem stringslite_HasPrefix.calls (a0 : ByteArray) (a1 : ByteArray) (r : Bool) (w : World) (h : stringslite_HasPrefix.f a0 a1 = some r) :
 Calls Tryz.prog 82 #[.string a0, .string a1] w fun e w' => e = .returned (.bool r) ∧ Drawn0 w w' := by
 have H : (if (a0.size : Int) ≥ (a1.size : Int) then (if 0 ≤ (a1.size : Int) then (if (a1.size : Int) ≤ (a0.size : Int) then (some ((a0.extract 0 a1.size).toList == a1.toList)) else (none)) else (none)) else (some false)) = some r := h
 clear h
 by_cases c3 : (a0.size : Int) ≥ (a1.size : Int)
 · rw [if_pos c3] at H
   have c3b0 : decide ((a1.size : Int) ≤ (a0.size : Int)) = true := decide_eq_true c3
   have c3b1 : decide (a1.size ≤ a0.size) = true := decide_eq_true (Int.ofNat_le.mp c3)
   clear c3
   by_cases c4 : 0 ≤ (a1.size : Int)
   · rw [if_pos c4] at H
     have c4b0 := eq_true c4
     have c4b1 : decide (0 ≤ (a1.size : Int)) = true := decide_eq_true c4
     clear c4
     by_cases c5 : (a1.size : Int) ≤ (a0.size : Int)
     · rw [if_pos c5] at H
       have c5b0 := eq_true c5
       have c5b1 : decide ((a1.size : Int) ≤ (a0.size : Int)) = true := decide_eq_true c5
       clear c5
       obtain rfl := Option.some.inj H
       go_enter Tryz.func82, Tryz.ntmps82
       go_wp2
       go_ret
       exact ⟨by first | rfl | (simp; done) | (simp [*]; done) | (simp [bne_nil_]; done), by repeat (first | exact Drawn0.refl _ | apply Drawn0.step)⟩
     · rw [if_neg c5] at H
       exact absurd H (by simp)
   · rw [if_neg c4] at H
     exact absurd H (by simp)
 · rw [if_neg c3] at H
   have c3b0 : decide ((a1.size : Int) ≤ (a0.size : Int)) = false := decide_eq_false c3
   have c3b1 : decide (a1.size ≤ a0.size) = false := decide_eq_false (fun h => c3 (Int.ofNat_le.mpr h))
   clear c3
   obtain rfl := Option.some.inj H
   go_enter Tryz.func82, Tryz.ntmps82
   go_wp2
   go_ret
   exact ⟨by first | rfl | (simp; done) | (simp [*]; done) | (simp [bne_nil_]; done), by repeat (first | exact Drawn0.refl _ | apply Drawn0.step)⟩

/-! ### stringslite_TrimPrefix: function 69 -/
def stringslite_TrimPrefix.f (a0 : ByteArray) (a1 : ByteArray) : Option (ByteArray) := (stringslite_HasPrefix.f a0 a1).bind fun t204 => (if t204 = true then (if 0 ≤ (a1.size : Int) then (if (a1.size : Int) ≤ (a0.size : Int) then (some (a0.extract a1.size a0.size)) else (none)) else (none)) else (some a0))
set_option maxHeartbeats 8000000 in
set_option maxRecDepth 100000 in
theorem stringslite_TrimPrefix.calls (a0 : ByteArray) (a1 : ByteArray) (r : ByteArray) (w : World) (h : stringslite_TrimPrefix.f a0 a1 = some r) :
 Calls Tryz.prog 69 #[.string a0, .string a1] w fun e w' => e = .returned (.string r) ∧ Drawn0 w w' := by
 have H : ((stringslite_HasPrefix.f a0 a1).bind fun t204 => (if t204 = true then (if 0 ≤ (a1.size : Int) then (if (a1.size : Int) ≤ (a0.size : Int) then (some (a0.extract a1.size a0.size)) else (none)) else (none)) else (some a0))) = some r := h
 clear h
 replace H := Option.bind_eq_some_iff.mp H
 obtain ⟨t204, A30, H⟩ := H
 replace H : (if t204 = true then (if 0 ≤ (a1.size : Int) then (if (a1.size : Int) ≤ (a0.size : Int) then (some (a0.extract a1.size a0.size)) else (none)) else (none)) else (some a0)) = some r := H
 have A3 := Aside0.mk A30
 clear A30
 by_cases c4 : t204 = true
 · subst c4
   have H1 : (if 0 ≤ (a1.size : Int) then (if (a1.size : Int) ≤ (a0.size : Int) then (some (a0.extract a1.size a0.size)) else (none)) else (none)) = some r := by rw [if_pos rfl] at H; exact H
   clear H
   have H := H1
   clear H1
   by_cases c5 : 0 ≤ (a1.size : Int)
   · rw [if_pos c5] at H
     have c5b0 := eq_true c5
     have c5b1 : decide (0 ≤ (a1.size : Int)) = true := decide_eq_true c5
     clear c5
     by_cases c6 : (a1.size : Int) ≤ (a0.size : Int)
     · rw [if_pos c6] at H
       have c6b0 := eq_true c6
       have c6b1 : decide ((a1.size : Int) ≤ (a0.size : Int)) = true := decide_eq_true c6
       clear c6
       obtain rfl := Option.some.inj H
       go_enter Tryz.func69, Tryz.ntmps69
       go_wp2_with (first | ((with_reducible refine gate_callee (f := 82) rfl ?_); refine goesL_ (some 7) rfl rfl Tryz.func82 (by kernel_rfl) rfl #[.string a0, .string a1] rfl (by (try simp only [List.map_toArray, List.map_cons, List.map_nil]); first | done | rfl | (simp only [List.length_drop, List.length_take]; rfl)) ?_; (with_reducible refine (stringslite_HasPrefix.calls a0 a1 true _ A3.out).mono ?_); rintro e w' ⟨rfl, ⟨nd, rfl⟩⟩; refine ⟨_, rfl, ?_⟩))
       go_ret
       exact ⟨by first | rfl | (simp; done) | (simp [*]; done) | (simp [bne_nil_]; done), by repeat (first | exact Drawn0.refl _ | apply Drawn0.step)⟩
     · rw [if_neg c6] at H
       exact absurd H (by simp)
   · rw [if_neg c5] at H
     exact absurd H (by simp)
 · replace c4 := Bool.eq_false_iff.mpr c4
   subst c4
   have H1 : (some a0) = some r := by rw [if_neg (show ¬ (false = true) by decide)] at H; exact H
   clear H
   have H := H1
   clear H1
   obtain rfl := Option.some.inj H
   go_enter Tryz.func69, Tryz.ntmps69
   go_wp2_with (first | ((with_reducible refine gate_callee (f := 82) rfl ?_); refine goesL_ (some 7) rfl rfl Tryz.func82 (by kernel_rfl) rfl #[.string a0, .string a1] rfl (by (try simp only [List.map_toArray, List.map_cons, List.map_nil]); first | done | rfl | (simp only [List.length_drop, List.length_take]; rfl)) ?_; (with_reducible refine (stringslite_HasPrefix.calls a0 a1 false _ A3.out).mono ?_); rintro e w' ⟨rfl, ⟨nd, rfl⟩⟩; refine ⟨_, rfl, ?_⟩))
   go_ret
   exact ⟨by first | rfl | (simp; done) | (simp [*]; done) | (simp [bne_nil_]; done), by repeat (first | exact Drawn0.refl _ | apply Drawn0.step)⟩

/-! ### strings_TrimPrefix: function 55 -/
def strings_TrimPrefix.f (a0 : ByteArray) (a1 : ByteArray) : Option (ByteArray) := (stringslite_TrimPrefix.f a0 a1).bind fun t205 => (some t205)
set_option maxHeartbeats 8000000 in
set_option maxRecDepth 100000 in
theorem strings_TrimPrefix.calls (a0 : ByteArray) (a1 : ByteArray) (r : ByteArray) (w : World) (h : strings_TrimPrefix.f a0 a1 = some r) :
 Calls Tryz.prog 55 #[.string a0, .string a1] w fun e w' => e = .returned (.string r) ∧ Drawn0 w w' := by
 have H : ((stringslite_TrimPrefix.f a0 a1).bind fun t205 => (some t205)) = some r := h
 clear h
 replace H := Option.bind_eq_some_iff.mp H
 obtain ⟨t205, A30, H⟩ := H
 replace H : (some t205) = some r := H
 have A3 := Aside0.mk A30
 clear A30
 obtain rfl := Option.some.inj H
 go_enter Tryz.func55, Tryz.ntmps55
 go_wp2_with (first | ((with_reducible refine gate_callee (f := 69) rfl ?_); refine goesL_ (some 7) rfl rfl Tryz.func69 (by kernel_rfl) rfl #[.string a0, .string a1] rfl (by (try simp only [List.map_toArray, List.map_cons, List.map_nil]); first | done | rfl | (simp only [List.length_drop, List.length_take]; rfl)) ?_; (with_reducible refine (stringslite_TrimPrefix.calls a0 a1 t205 _ A3.out).mono ?_); rintro e w' ⟨rfl, ⟨nd, rfl⟩⟩; refine ⟨_, rfl, ?_⟩))
 go_ret
 exact ⟨by first | rfl | (simp; done) | (simp [*]; done) | (simp [bne_nil_]; done), by repeat (first | exact Drawn0.refl _ | apply Drawn0.step)⟩

-- LEFT OUT: function 103

-- LEFT OUT: function 105

-- LEFT OUT: function 110

-- LEFT OUT: function 120

-- LEFT OUT: function 121

-- LEFT OUT: function 118

-- LEFT OUT: function 122

-- LEFT OUT: function 123

-- LEFT OUT: function 119

-- LEFT OUT: function 117

-- LEFT OUT: function 115

-- LEFT OUT: function 111

-- LEFT OUT: function 106

-- LEFT OUT: function 107

-- LEFT OUT: function 108

-- LEFT OUT: function 112

-- LEFT OUT: function 113

-- LEFT OUT: function 116

-- LEFT OUT: function 114

-- LEFT OUT: function 109

-- LEFT OUT: function 104

-- LEFT OUT: function 102

-- LEFT OUT: function 94

-- LEFT OUT: function 95

-- LEFT OUT: function 83

-- NOT PRINTED: function 70 (semantic_convertToBigInt)

-- LEFT OUT: function 96

-- LEFT OUT: function 84

-- LEFT OUT: function 71

-- GIVEN: function 56 (semantic_compareSemverBuildComponents)

/-! ### semantic_compareBuildComponents: function 43 -/
mutual
def semantic_compareBuildComponents.j0 : Nat → ByteArray → ByteArray → Bool → Option (Int)
 | 0, _, _, _ => none
 | k + 1, x0, x1, x18 => if x18 = true then (some 1) else (if x0.toList = ([] : List UInt8) then (semantic_compareBuildComponents.j1 k x0 x1 false) else (semantic_compareBuildComponents.j1 k x0 x1 (x1.toList == ([] : List UInt8))))
def semantic_compareBuildComponents.j1 : Nat → ByteArray → ByteArray → Bool → Option (Int)
 | 0, _, _, _ => none
 | k + 1, x0, x1, x24 => if x24 = true then (some (-1)) else ((semantic_zzSplit.f k x0 (⟨#[46]⟩ : ByteArray)).bind fun t210 => ((semantic_zzSplit.f k x1 (⟨#[46]⟩ : ByteArray)).bind fun t213 => ((Giv.semantic_compareSemverBuildComponents.f t210 t213).bind fun t216 => (some t216))))
end
def semantic_compareBuildComponents.f (k : Nat) (a0 : ByteArray) (a1 : ByteArray) : Option (Int) := (semantic_removeBuildMetadata.f k a0).bind fun t206 => ((semantic_removeBuildMetadata.f k a1).bind fun t207 => ((strings_TrimPrefix.f t206 (⟨#[45]⟩ : ByteArray)).bind fun t208 => ((strings_TrimPrefix.f t207 (⟨#[45]⟩ : ByteArray)).bind fun t209 => (if t208.toList = ([] : List UInt8) then (semantic_compareBuildComponents.j0 k t208 t209 (t209.toList != ([] : List UInt8))) else (semantic_compareBuildComponents.j0 k t208 t209 false)))))
theorem semantic_compareBuildComponents.mono_l : ∀ k, (∀ y0 y1 y2, LeO (semantic_compareBuildComponents.j0 k y0 y1 y2) (semantic_compareBuildComponents.j0 (k + 1) y0 y1 y2)) ∧ (∀ y0 y1 y2, LeO (semantic_compareBuildComponents.j1 k y0 y1 y2) (semantic_compareBuildComponents.j1 (k + 1) y0 y1 y2))
 | 0 => ⟨fun _ _ _ r h => by simp [semantic_compareBuildComponents.j0] at h, fun _ _ _ r h => by simp [semantic_compareBuildComponents.j1] at h⟩
 | k + 1 => by
  obtain ⟨ih0, ih1⟩ := semantic_compareBuildComponents.mono_l k
  refine ⟨?_, ?_⟩
  · intro y0 y1 y2
    unfold semantic_compareBuildComponents.j0
    repeat' first
    | (with_reducible exact ih0 _ _ _)
    | (with_reducible exact ih1 _ _ _)
    | (with_reducible exact semantic_removeBuildMetadata.mono _ _)
    | (with_reducible exact semantic_zzSplit.mono _ _ _)
    | (with_reducible exact LeO.refl _)
    | (with_reducible exact LeO.none _)
    | (with_reducible refine LeO.ite ?_ ?_)
    | (with_reducible refine LeO.bind ?_ (fun _ => ?_))
    | exact ih0 _ _ _
    | exact ih1 _ _ _
    | exact semantic_removeBuildMetadata.mono _ _
    | exact semantic_zzSplit.mono _ _ _
    | exact LeO.none _
    | refine LeO.ite ?_ ?_
    | refine LeO.bind ?_ (fun _ => ?_)
  · intro y0 y1 y2
    unfold semantic_compareBuildComponents.j1
    repeat' first
    | (with_reducible exact ih0 _ _ _)
    | (with_reducible exact ih1 _ _ _)
    | (with_reducible exact semantic_removeBuildMetadata.mono _ _)
    | (with_reducible exact semantic_zzSplit.mono _ _ _)
    | (with_reducible exact LeO.refl _)
    | (with_reducible exact LeO.none _)
    | (with_reducible refine LeO.ite ?_ ?_)
    | (with_reducible refine LeO.bind ?_ (fun _ => ?_))
    | exact ih0 _ _ _
    | exact ih1 _ _ _
    | exact semantic_removeBuildMetadata.mono _ _
    | exact semantic_zzSplit.mono _ _ _
    | exact LeO.none _
    | refine LeO.ite ?_ ?_
    | refine LeO.bind ?_ (fun _ => ?_)
theorem semantic_compareBuildComponents.mono : ∀ a0 a1 k, LeO (semantic_compareBuildComponents.f k a0 a1) (semantic_compareBuildComponents.f (k + 1) a0 a1) := by
 intro a0 a1 k
 obtain ⟨ih0, ih1⟩ := semantic_compareBuildComponents.mono_l k
 unfold semantic_compareBuildComponents.f
 repeat' first
  | (with_reducible exact ih0 _ _ _)
  | (with_reducible exact ih1 _ _ _)
  | (with_reducible exact semantic_removeBuildMetadata.mono _ _)
  | (with_reducible exact semantic_zzSplit.mono _ _ _)
  | (with_reducible exact LeO.refl _)
  | (with_reducible exact LeO.none _)
  | (with_reducible refine LeO.ite ?_ ?_)
  | (with_reducible refine LeO.bind ?_ (fun _ => ?_))
  | exact ih0 _ _ _
  | exact ih1 _ _ _
  | exact semantic_removeBuildMetadata.mono _ _
  | exact semantic_zzSplit.mono _ _ _
  | exact LeO.none _
  | refine LeO.ite ?_ ?_
  | refine LeO.bind ?_ (fun _ => ?_)
set_option maxHeartbeats 8000000 in
set_option maxRecDepth 100000 in
theorem semantic_compareBuildComponents.calls (k : Nat) (a0 : ByteArray) (a1 : ByteArray) (r : Int) (w : World) (h : semantic_compareBuildComponents.f k a0 a1 = some r) (hL : Giv.Laid w) :
 Calls Tryz.prog 43 #[.string a0, .string a1] w fun e w' => e = .returned (.int .i64 r) ∧ Below w.heap.size w w' := by
 have HLd := Aside0.mk hL
 clear hL
 have HB := Aside0.mk (Below.refl w.heap.size w)
 have H : ((semantic_removeBuildMetadata.f k a0).bind fun t206 => ((semantic_removeBuildMetadata.f k a1).bind fun t207 => ((strings_TrimPrefix.f t206 (⟨#[45]⟩ : ByteArray)).bind fun t208 => ((strings_TrimPrefix.f t207 (⟨#[45]⟩ : ByteArray)).bind fun t209 => (if t208.toList = ([] : List UInt8) then (semantic_compareBuildComponents.j0 k t208 t209 (t209.toList != ([] : List UInt8))) else (semantic_compareBuildComponents.j0 k t208 t209 false)))))) = some r := h
 clear h
 replace H := Option.bind_eq_some_iff.mp H
 obtain ⟨t206, A30, H⟩ := H
 replace H : ((semantic_removeBuildMetadata.f k a1).bind fun t207 => ((strings_TrimPrefix.f t206 (⟨#[45]⟩ : ByteArray)).bind fun t208 => ((strings_TrimPrefix.f t207 (⟨#[45]⟩ : ByteArray)).bind fun t209 => (if t208.toList = ([] : List UInt8) then (semantic_compareBuildComponents.j0 k t208 t209 (t209.toList != ([] : List UInt8))) else (semantic_compareBuildComponents.j0 k t208 t209 false))))) = some r := H
 have A3 := Aside0.mk A30
 clear A30
 replace H := Option.bind_eq_some_iff.mp H
 obtain ⟨t207, A40, H⟩ := H
 replace H : ((strings_TrimPrefix.f t206 (⟨#[45]⟩ : ByteArray)).bind fun t208 => ((strings_TrimPrefix.f t207 (⟨#[45]⟩ : ByteArray)).bind fun t209 => (if t208.toList = ([] : List UInt8) then (semantic_compareBuildComponents.j0 k t208 t209 (t209.toList != ([] : List UInt8))) else (semantic_compareBuildComponents.j0 k t208 t209 false)))) = some r := H
 have A4 := Aside0.mk A40
 clear A40
 replace H := Option.bind_eq_some_iff.mp H
 obtain ⟨t208, A50, H⟩ := H
 replace H : ((strings_TrimPrefix.f t207 (⟨#[45]⟩ : ByteArray)).bind fun t209 => (if t208.toList = ([] : List UInt8) then (semantic_compareBuildComponents.j0 k t208 t209 (t209.toList != ([] : List UInt8))) else (semantic_compareBuildComponents.j0 k t208 t209 false))) = some r := H
 have A5 := Aside0.mk A50
 clear A50
 replace H := Option.bind_eq_some_iff.mp H
 obtain ⟨t209, A60, H⟩ := H
 replace H : (if t208.toList = ([] : List UInt8) then (semantic_compareBuildComponents.j0 k t208 t209 (t209.toList != ([] : List UInt8))) else (semantic_compareBuildComponents.j0 k t208 t209 false)) = some r := H
 have A6 := Aside0.mk A60
 clear A60
 have HC7 := Aside0.mk H
 clear H
 go_enter Tryz.func43, Tryz.ntmps43
 go_upto_region 5 with (first | ((with_reducible refine gate_callee (f := 54) rfl ?_); refine goesL_ (some 6) rfl rfl Tryz.func54 (by kernel_rfl) rfl #[.string a0] rfl (by (try simp only [List.map_toArray, List.map_cons, List.map_nil]); first | done | rfl | (simp only [List.length_drop, List.length_take]; rfl)) ?_; (with_reducible refine (semantic_removeBuildMetadata.calls k a0 t206 _ A3.out).mono ?_); rintro e w8 ⟨rfl, hb⟩; refine ⟨_, rfl, ?_⟩; have n0_ := Aside0.mk (below_step (by repeat (first | (with_reducible first | exact HB.out | apply below_alloc | apply pw_below_drewN | apply below_drew1) | exact HB.out)) hb); clear HB; have HB := n0_; clear n0_; (try clear hb); (try clear hb2); (try clear hk); (try clear hi)) | ((with_reducible refine gate_callee (f := 54) rfl ?_); refine goesL_ (some 8) rfl rfl Tryz.func54 (by kernel_rfl) rfl #[.string a1] rfl (by (try simp only [List.map_toArray, List.map_cons, List.map_nil]); first | done | rfl | (simp only [List.length_drop, List.length_take]; rfl)) ?_; (with_reducible refine (semantic_removeBuildMetadata.calls k a1 t207 _ A4.out).mono ?_); rintro e w9 ⟨rfl, hb⟩; refine ⟨_, rfl, ?_⟩; have n0_ := Aside0.mk (below_step (by repeat (first | (with_reducible first | exact HB.out | apply below_alloc | apply pw_below_drewN | apply below_drew1) | exact HB.out)) hb); clear HB; have HB := n0_; clear n0_; (try clear hb); (try clear hb2); (try clear hk); (try clear hi)) | ((with_reducible refine gate_callee (f := 55) rfl ?_); refine goesL_ (some 10) rfl rfl Tryz.func55 (by kernel_rfl) rfl #[.string t206, .string (⟨#[45]⟩ : ByteArray)] rfl (by (try simp only [List.map_toArray, List.map_cons, List.map_nil]); first | done | rfl | (simp only [List.length_drop, List.length_take]; rfl)) ?_; (with_reducible refine (strings_TrimPrefix.calls t206 (⟨#[45]⟩ : ByteArray) t208 _ A5.out).mono ?_); rintro e w' ⟨rfl, ⟨nd, rfl⟩⟩; refine ⟨_, rfl, ?_⟩) | ((with_reducible refine gate_callee (f := 55) rfl ?_); refine goesL_ (some 12) rfl rfl Tryz.func55 (by kernel_rfl) rfl #[.string t207, .string (⟨#[45]⟩ : ByteArray)] rfl (by (try simp only [List.map_toArray, List.map_cons, List.map_nil]); first | done | rfl | (simp only [List.length_drop, List.length_take]; rfl)) ?_; (with_reducible refine (strings_TrimPrefix.calls t207 (⟨#[45]⟩ : ByteArray) t209 _ A6.out).mono ?_); rintro e w' ⟨rfl, ⟨nd, rfl⟩⟩; refine ⟨_, rfl, ?_⟩))
 (try simp only [Act.put, List.setIfInBounds_toArray, List.set_cons_zero, List.set_cons_succ])
 go_cut [18] (fun v18 wc => ∃ (kq : Nat) (x18_6 : Bool), v18 = .bool x18_6 ∧ Aside0 (semantic_compareBuildComponents.j0 kq t208 t209 x18_6 = some r) ∧ Aside0 (kq ≤ k) ∧ Aside0 (Below w.heap.size w wc))
 case first =>
  have H := HC7.out
  clear HC7
  by_cases c10 : t208.toList = ([] : List UInt8)
  · rw [if_pos c10] at H
    have c10b0 : (t208.toList == ([] : List UInt8)) = true := beq_iff_eq.mpr c10
    have c10b1 : (t208.toList != ([] : List UInt8)) = false := bne_eq_false_iff_eq.mpr c10
    clear c10
    (first | rw [c10b0] | (simp only [i64_w, i32_w]; rw [c10b0]) | skip)
    have H' := Aside0.mk H
    clear H
    go_wp2
    go_meet
    case rel => exact ⟨_, ((t209.toList != ([] : List UInt8))), (by first | rfl | (simp; done) | (simp [*]; done) | (simp [bne_nil_]; done)), H', ⟨by first | omega | exact Nat.le_refl _⟩, ⟨by repeat (first | (with_reducible first | exact HB.out | apply below_alloc | apply pw_below_drewN | apply below_drew1) | exact HB.out)⟩⟩
  · rw [if_neg c10] at H
    have c10b0 : (t208.toList == ([] : List UInt8)) = false := beq_eq_false_iff_ne.mpr c10
    have c10b1 : (t208.toList != ([] : List UInt8)) = true := bne_iff_ne.mpr c10
    (first | rw [c10b0] | (simp only [i64_w, i32_w]; rw [c10b0]) | skip)
    have H' := Aside0.mk H
    clear H
    go_wp2
    go_meet
    case rel => exact ⟨_, (false), (by first | rfl | (simp; done) | (simp [*]; done) | (simp [bne_nil_]; done)), H', ⟨by first | omega | exact Nat.le_refl _⟩, ⟨by repeat (first | (with_reducible first | exact HB.out | apply below_alloc | apply pw_below_drewN | apply below_drew1) | exact HB.out)⟩⟩
 case rest =>
  clear HC7
  try clear c1
  try clear p2
  try clear c4
  try clear c5
  try clear c10
  try clear c10b0
  try clear c10b1
  obtain ⟨kq, x18_6, rfl, HA, HJ6, HB⟩ := hcut
  cases kq with
  | zero => exact absurd HA.out (by simp [semantic_compareBuildComponents.j0])
  | succ kj6 =>
   have H := HA.out
   clear HA
   simp only [semantic_compareBuildComponents.j0] at H
   by_cases c11 : x18_6 = true
   · subst c11
     have H1 : (some 1) = some r := by rw [if_pos rfl] at H; exact H
     clear H
     have H := H1
     clear H1
     obtain rfl := Option.some.inj H
     go_wp2
     go_ret
     exact ⟨by first | rfl | (simp [errW_none, errW_some] <;> rfl) | (simp [*, errW_none, errW_some] <;> rfl) | (simp [bne_nil_]; done), by repeat (first | (with_reducible first | exact HB.out | apply below_alloc | apply pw_below_drewN | apply below_drew1) | exact HB.out)⟩
   · replace c11 := Bool.eq_false_iff.mpr c11
     subst c11
     have H1 : (if t208.toList = ([] : List UInt8) then (semantic_compareBuildComponents.j1 kj6 t208 t209 false) else (semantic_compareBuildComponents.j1 kj6 t208 t209 (t209.toList == ([] : List UInt8)))) = some r := by rw [if_neg (show ¬ (false = true) by decide)] at H; exact H
     clear H
     have H := H1
     clear H1
     have HC12 := Aside0.mk H
     clear H
     go_upto_region 7 with (fail)
     go_cut [24] (fun v24 wc => ∃ (kq : Nat) (x24_11 : Bool), v24 = .bool x24_11 ∧ Aside0 (semantic_compareBuildComponents.j1 kq t208 t209 x24_11 = some r) ∧ Aside0 (kq ≤ kj6) ∧ Aside0 (Below w.heap.size w wc))
     case first =>
      have H := HC12.out
      clear HC12
      by_cases c13 : t208.toList = ([] : List UInt8)
      · rw [if_pos c13] at H
        have c13b0 : (t208.toList == ([] : List UInt8)) = true := beq_iff_eq.mpr c13
        have c13b1 : (t208.toList != ([] : List UInt8)) = false := bne_eq_false_iff_eq.mpr c13
        clear c13
        (first | rw [c13b0] | (simp only [i64_w, i32_w]; rw [c13b0]) | skip)
        have H' := Aside0.mk H
        clear H
        go_wp2
        go_meet
        case rel => exact ⟨_, (false), (by first | rfl | (simp; done) | (simp [*]; done) | (simp [bne_nil_]; done)), H', ⟨by have := HJ6.out; first | omega | exact Nat.le_refl _⟩, ⟨by repeat (first | (with_reducible first | exact HB.out | apply below_alloc | apply pw_below_drewN | apply below_drew1) | exact HB.out)⟩⟩
      · rw [if_neg c13] at H
        have c13b0 : (t208.toList == ([] : List UInt8)) = false := beq_eq_false_iff_ne.mpr c13
        have c13b1 : (t208.toList != ([] : List UInt8)) = true := bne_iff_ne.mpr c13
        (first | rw [c13b0] | (simp only [i64_w, i32_w]; rw [c13b0]) | skip)
        have H' := Aside0.mk H
        clear H
        go_wp2
        go_meet
        case rel => exact ⟨_, ((t209.toList == ([] : List UInt8))), (by first | rfl | (simp; done) | (simp [*]; done) | (simp [bne_nil_]; done)), H', ⟨by have := HJ6.out; first | omega | exact Nat.le_refl _⟩, ⟨by repeat (first | (with_reducible first | exact HB.out | apply below_alloc | apply pw_below_drewN | apply below_drew1) | exact HB.out)⟩⟩
     case rest =>
      clear HC12
      try clear c1
      try clear p2
      try clear c4
      try clear c5
      try clear c10
      try clear c10b0
      try clear c10b1
      try clear c11
      try clear c13
      try clear c13b0
      try clear c13b1
      try clear p2
      obtain ⟨kq, x24_11, rfl, HA, HJ11, HB⟩ := hcut
      cases kq with
      | zero => exact absurd HA.out (by simp [semantic_compareBuildComponents.j1])
      | succ kj11 =>
       have H := HA.out
       clear HA
       simp only [semantic_compareBuildComponents.j1] at H
       by_cases c14 : x24_11 = true
       · subst c14
         have H1 : (some (-1)) = some r := by rw [if_pos rfl] at H; exact H
         clear H
         have H := H1
         clear H1
         obtain rfl := Option.some.inj H
         go_wp2
         go_ret
         exact ⟨by first | rfl | (simp [errW_none, errW_some] <;> rfl) | (simp [*, errW_none, errW_some] <;> rfl) | (simp [bne_nil_]; done), by repeat (first | (with_reducible first | exact HB.out | apply below_alloc | apply pw_below_drewN | apply below_drew1) | exact HB.out)⟩
       · replace c14 := Bool.eq_false_iff.mpr c14
         subst c14
         have H1 : ((semantic_zzSplit.f kj11 t208 (⟨#[46]⟩ : ByteArray)).bind fun t210 => ((semantic_zzSplit.f kj11 t209 (⟨#[46]⟩ : ByteArray)).bind fun t213 => ((Giv.semantic_compareSemverBuildComponents.f t210 t213).bind fun t216 => (some t216)))) = some r := by rw [if_neg (show ¬ (false = true) by decide)] at H; exact H
         clear H
         have H := H1
         clear H1
         replace H := Option.bind_eq_some_iff.mp H
         obtain ⟨t210, A150, H⟩ := H
         replace H : ((semantic_zzSplit.f kj11 t209 (⟨#[46]⟩ : ByteArray)).bind fun t213 => ((Giv.semantic_compareSemverBuildComponents.f t210 t213).bind fun t216 => (some t216))) = some r := H
         have A15 := Aside0.mk A150
         clear A150
         replace H := Option.bind_eq_some_iff.mp H
         obtain ⟨t213, A160, H⟩ := H
         replace H : ((Giv.semantic_compareSemverBuildComponents.f t210 t213).bind fun t216 => (some t216)) = some r := H
         have A16 := Aside0.mk A160
         clear A160
         replace H := Option.bind_eq_some_iff.mp H
         obtain ⟨t216, A170, H⟩ := H
         replace H : (some t216) = some r := H
         have A17 := Aside0.mk A170
         clear A170
         obtain rfl := Option.some.inj H
         go_wp2_with (first | ((with_reducible refine gate_callee (f := 57) rfl ?_); refine goesL_ (some 26) rfl rfl Tryz.func57 (by kernel_rfl) rfl #[.string t208, .string (⟨#[46]⟩ : ByteArray)] rfl (by (try simp only [List.map_toArray, List.map_cons, List.map_nil]); first | done | rfl | (simp only [List.length_drop, List.length_take]; rfl)) ?_; (with_reducible refine (semantic_zzSplit.calls kj11 t208 (⟨#[46]⟩ : ByteArray) t210 _ A15.out).mono ?_); rintro e w18 ⟨v211, rfl, ho0, hb⟩; refine ⟨_, rfl, ?_⟩; have n0_ := Aside0.mk (Kd.R_lower ho0 (below_size (by repeat (first | (with_reducible first | exact HB.out | apply below_alloc | apply pw_below_drewN | apply below_drew1) | exact HB.out)))); have n1_ := Aside0.mk (below_step (by repeat (first | (with_reducible first | exact HB.out | apply below_alloc | apply pw_below_drewN | apply below_drew1) | exact HB.out)) hb); clear HB; have HO212 := n0_; have HB := n1_; clear n0_ n1_; (try clear hb); (try clear hb2); (try clear hk); (try clear hi); (try clear ho0)) | ((with_reducible refine gate_callee (f := 57) rfl ?_); refine goesL_ (some 28) rfl rfl Tryz.func57 (by kernel_rfl) rfl #[.string t209, .string (⟨#[46]⟩ : ByteArray)] rfl (by (try simp only [List.map_toArray, List.map_cons, List.map_nil]); first | done | rfl | (simp only [List.length_drop, List.length_take]; rfl)) ?_; (with_reducible refine (semantic_zzSplit.calls kj11 t209 (⟨#[46]⟩ : ByteArray) t213 _ A16.out).mono ?_); rintro e w19 ⟨v214, rfl, ho0, hb⟩; refine ⟨_, rfl, ?_⟩; have n0_ := Aside0.mk (Kd.R_elder' (by (with_reducible repeat (first | apply Kd.R_alloc | apply Kd.R_drewN | apply Kd.R_drew)); exact HO212.out) (Kd.R_base ho0) hb); have n1_ := Aside0.mk (Kd.R_lower (Kd.R_new' ho0 (Kd.R_lt (by (with_reducible repeat (first | apply Kd.R_alloc | apply Kd.R_drewN | apply Kd.R_drew)); exact HO212.out))) (below_size (by repeat (first | (with_reducible first | exact HB.out | apply below_alloc | apply pw_below_drewN | apply below_drew1) | exact HB.out)))); have n2_ := Aside0.mk (below_step (by repeat (first | (with_reducible first | exact HB.out | apply below_alloc | apply pw_below_drewN | apply below_drew1) | exact HB.out)) hb); clear HO212; clear HB; have HO212 := n0_; have HO215 := n1_; have HB := n2_; clear n0_ n1_ n2_; (try clear hb); (try clear hb2); (try clear hk); (try clear hi); (try clear ho0); obtain ⟨Ao20, co20, eo20⟩ := Kd.R_slice HO212.out; subst eo20; obtain ⟨Ao21, co21, eo21⟩ := Kd.R_slice HO215.out; subst eo21) | ((with_reducible refine gate_callee (f := 56) rfl ?_); refine goesL_ (some 29) rfl rfl Tryz.func56 (by kernel_rfl) rfl #[.slice Ao20 t210.length co20, .slice Ao21 t213.length co21] rfl (by (try simp only [List.map_toArray, List.map_cons, List.map_nil]); first | done | rfl | (simp only [List.length_drop, List.length_take]; rfl)) ?_; (with_reducible refine (Giv.semantic_compareSemverBuildComponents.calls _ _ t210 _ _ t213 t216 _ ?side1 ?side2 ?side3 ?side4 A17.out (HLd.out.below (by repeat (first | (with_reducible first | exact HB.out | apply below_alloc | apply pw_below_drewN | apply below_drew1) | exact HB.out)))).mono ?_); (case side1 => repeat (first | exact (Kd.R_reads' HO212.out).2.2 | (with_reducible refine Kd.C_alloc ?_ _) | (with_reducible refine Kd.C_drewN ?_ _) | (with_reducible refine Kd.C_drew ?_))); (case side2 => exact (Kd.R_reads' HO212.out).2.1); (case side3 => repeat (first | exact (Kd.R_reads' HO215.out).2.2 | (with_reducible refine Kd.C_alloc ?_ _) | (with_reducible refine Kd.C_drewN ?_ _) | (with_reducible refine Kd.C_drew ?_))); (case side4 => exact (Kd.R_reads' HO215.out).2.1); rintro e w22 ⟨rfl, hb⟩; refine ⟨_, rfl, ?_⟩; have n0_ := Aside0.mk (Kd.R_below (by (with_reducible repeat (first | apply Kd.R_alloc | apply Kd.R_drewN | apply Kd.R_drew)); exact HO212.out) hb); have n1_ := Aside0.mk (Kd.R_below (by (with_reducible repeat (first | apply Kd.R_alloc | apply Kd.R_drewN | apply Kd.R_drew)); exact HO215.out) hb); have n2_ := Aside0.mk (below_step (by repeat (first | (with_reducible first | exact HB.out | apply below_alloc | apply pw_below_drewN | apply below_drew1) | exact HB.out)) hb); clear HO212; clear HO215; clear HB; have HO212 := n0_; have HO215 := n1_; have HB := n2_; clear n0_ n1_ n2_; (try clear hb); (try clear hb2); (try clear hk); (try clear hi)))
         go_ret
         exact ⟨by first | rfl | (simp [errW_none, errW_some] <;> rfl) | (simp [*, errW_none, errW_some] <;> rfl) | (simp [bne_nil_]; done), by repeat (first | (with_reducible first | exact HB.out | apply below_alloc | apply pw_below_drewN | apply below_drew1) | exact HB.out)⟩

-- LEFT OUT: function 85

-- LEFT OUT: function 73

-- LEFT OUT: function 86

-- LEFT OUT: function 74

-- LEFT OUT: function 58

-- LEFT OUT: function 59

-- LEFT OUT: function 60

-- LEFT OUT: function 61

-- LEFT OUT: function 87

-- LEFT OUT: function 75

-- LEFT OUT: function 76

-- LEFT OUT: function 97

-- LEFT OUT: function 88

-- LEFT OUT: function 77

-- LEFT OUT: function 78

-- NOT PRINTED: function 62 (strings_Map)

-- NOT PRINTED: function 98 (unicode_lookupCaseRange)

-- NOT PRINTED: function 99 (unicode_convertCase)

-- NOT PRINTED: function 89 (unicode_to)

-- NOT PRINTED: function 79 (unicode_To)

-- NOT PRINTED: function 63 (unicode_ToLower)

-- NOT PRINTED: function 44 (strings_ToLower)

-- NOT PRINTED: function 33 (semantic_NuGetVersion_compare)

-- NOT PRINTED: function 20 (semantic_NuGetVersion_Compare)

-- GIVEN: function 8 (impl_NuGetCompare)

/-! ### laws_turned: function 9 -/
def laws_turned.f (a0 : Int) (a1 : Int) : Option (Bool) := if a0 = (wrap64 (-a1)) then (if a0 ≥ (-1) then (some (decide (a0 ≤ 1))) else (some false)) else (some false)
set_option maxHeartbeats 8000000 in
set_option maxRecDepth 100000 in
theorem laws_turned.calls (a0 : Int) (a1 : Int) (r : Bool) (w : World) (h : laws_turned.f a0 a1 = some r) :
 Calls Tryz.prog 9 #[.int .i64 a0, .int .i64 a1] w fun e w' => e = .returned (.bool r) ∧ Drawn0 w w' := by
 have H : (if a0 = (wrap64 (-a1)) then (if a0 ≥ (-1) then (some (decide (a0 ≤ 1))) else (some false)) else (some false)) = some r := h
 clear h
 by_cases c3 : a0 = (wrap64 (-a1))
 · rw [if_pos c3] at H
   have c3b0 : (a0 == (wrap64 (-a1))) = true := beq_iff_eq.mpr c3
   have c3b1 : (a0 != (wrap64 (-a1))) = false := bne_eq_false_iff_eq.mpr c3
   clear c3
   by_cases c4 : a0 ≥ (-1)
   · rw [if_pos c4] at H
     have c4b0 : decide ((-1) ≤ a0) = true := decide_eq_true c4
     clear c4
     obtain rfl := Option.some.inj H
     go_enter Tryz.func9, Tryz.ntmps9
     go_wp2
     go_ret
     exact ⟨by first | rfl | (simp; done) | (simp [*]; done) | (simp [bne_nil_]; done), by repeat (first | exact Drawn0.refl _ | apply Drawn0.step)⟩
   · rw [if_neg c4] at H
     have c4b0 : decide ((-1) ≤ a0) = false := decide_eq_false c4
     clear c4
     obtain rfl := Option.some.inj H
     go_enter Tryz.func9, Tryz.ntmps9
     go_wp2
     go_ret
     exact ⟨by first | rfl | (simp; done) | (simp [*]; done) | (simp [bne_nil_]; done), by repeat (first | exact Drawn0.refl _ | apply Drawn0.step)⟩
 · rw [if_neg c3] at H
   have c3b0 : (a0 == (wrap64 (-a1))) = false := beq_eq_false_iff_ne.mpr c3
   have c3b1 : (a0 != (wrap64 (-a1))) = true := bne_iff_ne.mpr c3
   obtain rfl := Option.some.inj H
   go_enter Tryz.func9, Tryz.ntmps9
   go_wp2
   go_ret
   exact ⟨by first | rfl | (simp; done) | (simp [*]; done) | (simp [bne_nil_]; done), by repeat (first | exact Drawn0.refl _ | apply Drawn0.step)⟩

-- NOT PRINTED: function 3 (laws_FnNuGet)

/-! ### spec_HackageCompare: function 10 -/
def spec_HackageCompare.f (k : Nat) (a0_0 : Bool) (l0_1 : List (S55)) (a0_2 : ByteArray) (a0_3 : ByteArray) (a1_0 : Bool) (l1_1 : List (S55)) (a1_2 : ByteArray) (a1_3 : ByteArray) : Option (Int × Bool) := (spec_NuGetCompare.f k a0_0 l0_1 a0_2 a0_3 a1_0 l1_1 a1_2 a1_3).bind fun bt223 => (if bt223.1 = 0 then ((spec_orderInts.f (l0_1.length : Int) (l1_1.length : Int)).bind fun t225 => (some (t225, true))) else (some (bt223.1, true)))
theorem spec_HackageCompare.mono : ∀ a0 a1 a2 a3 a4 a5 a6 a7 k, LeO (spec_HackageCompare.f k a0 a1 a2 a3 a4 a5 a6 a7) (spec_HackageCompare.f (k + 1) a0 a1 a2 a3 a4 a5 a6 a7) := by
 intro a0 a1 a2 a3 a4 a5 a6 a7 k
 unfold spec_HackageCompare.f
 repeat' first
  | (with_reducible exact spec_NuGetCompare.mono _ _ _ _ _ _ _ _ _)
  | (with_reducible exact LeO.refl _)
  | (with_reducible exact LeO.none _)
  | (with_reducible refine LeO.ite ?_ ?_)
  | (with_reducible refine LeO.bind ?_ (fun _ => ?_))
  | exact spec_NuGetCompare.mono _ _ _ _ _ _ _ _ _
  | exact LeO.none _
  | refine LeO.ite ?_ ?_
  | refine LeO.bind ?_ (fun _ => ?_)
set_option maxHeartbeats 8000000 in
set_option maxRecDepth 100000 in
theorem spec_HackageCompare.calls (k : Nat) (a0_0 : Bool) (A0_1 : Option Addr) (c0_1 : Nat) (l0_1 : List (S55)) (a0_2 : ByteArray) (a0_3 : ByteArray) (a1_0 : Bool) (A1_1 : Option Addr) (c1_1 : Nat) (l1_1 : List (S55)) (a1_2 : ByteArray) (a1_3 : ByteArray) (r1 : Int) (r2 : Bool) (w : World) (hr0_1 : Kd.C k55 w A0_1 l0_1.length l0_1) (hc0_1 : l0_1.length ≤ c0_1) (hr1_1 : Kd.C k55 w A1_1 l1_1.length l1_1) (hc1_1 : l1_1.length ≤ c1_1) (h : spec_HackageCompare.f k a0_0 l0_1 a0_2 a0_3 a1_0 l1_1 a1_2 a1_3 = some (r1, r2)) :
 Calls Tryz.prog 10 #[.agg #[.bool a0_0, .slice A0_1 l0_1.length c0_1, .string a0_2, .string a0_3], .agg #[.bool a1_0, .slice A1_1 l1_1.length c1_1, .string a1_2, .string a1_3]] w fun e w' => e = .returned (.tuple #[.int .i64 r1, .bool r2]) ∧ Below w.heap.size w w' := by
 have hu24 := Tryz.underlying24
 have HR0_1 := Aside0.mk hr0_1
 have HC0_1 := Aside0.mk hc0_1
 clear hr0_1 hc0_1
 have HR1_1 := Aside0.mk hr1_1
 have HC1_1 := Aside0.mk hc1_1
 clear hr1_1 hc1_1
 have HB := Aside0.mk (Below.refl w.heap.size w)
 have H : ((spec_NuGetCompare.f k a0_0 l0_1 a0_2 a0_3 a1_0 l1_1 a1_2 a1_3).bind fun bt223 => (if bt223.1 = 0 then ((spec_orderInts.f (l0_1.length : Int) (l1_1.length : Int)).bind fun t225 => (some (t225, true))) else (some (bt223.1, true)))) = some (r1, r2) := h
 clear h
 replace H := Option.bind_eq_some_iff.mp H
 obtain ⟨⟨t223, t224⟩, A30, H⟩ := H
 replace H : (if t223 = 0 then ((spec_orderInts.f (l0_1.length : Int) (l1_1.length : Int)).bind fun t225 => (some (t225, true))) else (some (t223, true))) = some (r1, r2) := H
 have A3 := Aside0.mk A30
 clear A30
 by_cases c4 : t223 = 0
 · rw [if_pos c4] at H
   have c4b0 : (t223 == 0) = true := beq_iff_eq.mpr c4
   have c4b1 : (t223 != 0) = false := bne_eq_false_iff_eq.mpr c4
   clear c4
   replace H := Option.bind_eq_some_iff.mp H
   obtain ⟨t225, A50, H⟩ := H
   replace H : (some (t225, true)) = some (r1, r2) := H
   have A5 := Aside0.mk A50
   clear A50
   simp only [Option.some.injEq, Prod.mk.injEq] at H
   obtain ⟨rfl, rfl⟩ := H
   go_enter Tryz.func10, Tryz.ntmps10
   go_wp2_with (first | ((with_reducible refine gate_dst (N := 2) rfl ?_); refine box_event ?hg (N := 2) ?hd (cs := #[.bool a0_0, .slice A0_1 l0_1.length c0_1, .string a0_2, .string a0_3]) (t := 24) ?hr ?_; (case hd => rfl); (case hg => rfl); (case hr => first | (go_simp; done) | (go_simp; rfl)); intro gb221 hg w6 hbox hb; have n0_ := Aside0.mk (below_step (by repeat (first | (with_reducible first | exact HB.out | apply below_alloc | apply pw_below_drewN | apply below_drew1) | exact HB.out)) hb); have n1_ := Aside0.mk (hbox); have n2_ := Aside0.mk ((by rw [hg]; exact (below_size (by repeat (first | (with_reducible first | exact HB.out | apply below_alloc | apply pw_below_drewN | apply below_drew1) | exact HB.out))) : w.heap.size ≤ gb221)); have n3_ := Aside0.mk ((by rw [hg]; exact (below_size (by repeat (first | (with_reducible first | exact HB.out | apply below_alloc | apply pw_below_drewN | apply below_drew1) | exact HB.out))) : w.heap.size ≤ gb221)); clear HB; have HB := n0_; have BK221 := n1_; have GW221 := n2_; have GE221 := n3_; clear n0_ n1_ n2_ n3_; clear hb hbox hg) | ((with_reducible refine gate_dst (N := 3) rfl ?_); refine box_event ?hg (N := 3) ?hd (cs := #[.bool a1_0, .slice A1_1 l1_1.length c1_1, .string a1_2, .string a1_3]) (t := 24) ?hr ?_; (case hd => rfl); (case hg => rfl); (case hr => first | (go_simp; done) | (go_simp; rfl)); intro gb222 hg w7 hbox hb; have n0_ := Aside0.mk (blk_below (g := gb221) (o := .cells #[.bool a0_0, .slice A0_1 l0_1.length c0_1, .string a0_2, .string a0_3] 24 (0, 0)) (by (with_reducible repeat (first | refine blk_drewN ?_ _ | refine blk_drew ?_ | refine blk_alloc ?_ _)); exact BK221.out) hb); have n1_ := Aside0.mk (below_step (by repeat (first | (with_reducible first | exact HB.out | apply below_alloc | apply pw_below_drewN | apply below_drew1 | refine below_set ?_ GE221.out) | exact HB.out)) hb); have n2_ := Aside0.mk (hbox); have n3_ := Aside0.mk ((by rw [hg]; exact (below_size (by repeat (first | (with_reducible first | exact HB.out | apply below_alloc | apply pw_below_drewN | apply below_drew1 | refine below_set ?_ GE221.out) | exact HB.out))) : w.heap.size ≤ gb222)); have n4_ := Aside0.mk ((by rw [hg]; exact (below_size (by repeat (first | (with_reducible first | exact HB.out | apply below_alloc | apply pw_below_drewN | apply below_drew1 | refine below_set ?_ GE221.out) | exact HB.out))) : w.heap.size ≤ gb222)); have n5_ := Aside0.mk ((by rw [hg]; exact Nat.ne_of_lt (blk_lt (g := gb221) (o := .cells #[.bool a0_0, .slice A0_1 l0_1.length c0_1, .string a0_2, .string a0_3] 24 (0, 0)) (by (with_reducible repeat (first | refine blk_drewN ?_ _ | refine blk_drew ?_ | refine blk_alloc ?_ _)); exact BK221.out)) : gb221 ≠ gb222)); have n6_ := Aside0.mk ((by rw [hg]; exact Nat.ne_of_gt (blk_lt (g := gb221) (o := .cells #[.bool a0_0, .slice A0_1 l0_1.length c0_1, .string a0_2, .string a0_3] 24 (0, 0)) (by (with_reducible repeat (first | refine blk_drewN ?_ _ | refine blk_drew ?_ | refine blk_alloc ?_ _)); exact BK221.out)) : gb222 ≠ gb221)); clear BK221; clear HB; have BK221 := n0_; have HB := n1_; have BK222 := n2_; have GW222 := n3_; have GE222 := n4_; have NB221_222 := n5_; have NB222_221 := n6_; clear n0_ n1_ n2_ n3_ n4_ n5_ n6_; clear hb hbox hg; have hnb8 := NB221_222.out; have hnc8 := NB222_221.out; have hcz9_0 : w7.cell? ⟨gb221, 0, none⟩ = some (.bool a0_0) := (blk_cell BK221.out 0).trans rfl; have hcz9_1 : w7.cell? ⟨gb221, 1, none⟩ = some (.slice A0_1 l0_1.length c0_1) := (blk_cell BK221.out 1).trans rfl; have hcz9_2 : w7.cell? ⟨gb221, 2, none⟩ = some (.string a0_2) := (blk_cell BK221.out 2).trans rfl; have hcz9_3 : w7.cell? ⟨gb221, 3, none⟩ = some (.string a0_3) := (blk_cell BK221.out 3).trans rfl; have hfz9_0 := blk_frozen BK221.out 0; have hfz9_1 := blk_frozen BK221.out 1; have hfz9_2 := blk_frozen BK221.out 2; have hfz9_3 := blk_frozen BK221.out 3; have hcz10_0 : w7.cell? ⟨gb222, 0, none⟩ = some (.bool a1_0) := (blk_cell BK222.out 0).trans rfl; have hcz10_1 : w7.cell? ⟨gb222, 1, none⟩ = some (.slice A1_1 l1_1.length c1_1) := (blk_cell BK222.out 1).trans rfl; have hcz10_2 : w7.cell? ⟨gb222, 2, none⟩ = some (.string a1_2) := (blk_cell BK222.out 2).trans rfl; have hcz10_3 : w7.cell? ⟨gb222, 3, none⟩ = some (.string a1_3) := (blk_cell BK222.out 3).trans rfl; have hfz10_0 := blk_frozen BK222.out 0; have hfz10_1 := blk_frozen BK222.out 1; have hfz10_2 := blk_frozen BK222.out 2; have hfz10_3 := blk_frozen BK222.out 3) | ((with_reducible refine gate_callee (f := 7) rfl ?_); refine goesL_ (some 11) rfl rfl Tryz.func7 (by kernel_rfl) rfl #[.agg #[.bool a0_0, .slice A0_1 l0_1.length c0_1, .string a0_2, .string a0_3], .agg #[.bool a1_0, .slice A1_1 l1_1.length c1_1, .string a1_2, .string a1_3]] rfl (by (try simp only [List.map_toArray, List.map_cons, List.map_nil]); first | done | rfl | (simp only [List.length_drop, List.length_take]; rfl)) ?_; (with_reducible refine (spec_NuGetCompare.calls k a0_0 _ _ l0_1 a0_2 a0_3 a1_0 _ _ l1_1 a1_2 a1_3 t223 t224 _ ?side1 ?side2 ?side3 ?side4 A3.out).mono ?_); (case side1 => repeat (first | exact (Kd.C_below HR0_1.out HB.out) | (with_reducible refine Kd.C_alloc ?_ _) | (with_reducible refine Kd.C_drewN ?_ _) | (with_reducible refine Kd.C_drew ?_))); (case side2 => exact HC0_1.out); (case side3 => repeat (first | exact (Kd.C_below HR1_1.out HB.out) | (with_reducible refine Kd.C_alloc ?_ _) | (with_reducible refine Kd.C_drewN ?_ _) | (with_reducible refine Kd.C_drew ?_))); (case side4 => exact HC1_1.out); rintro e w11 ⟨rfl, hb⟩; refine ⟨_, rfl, ?_⟩; have n0_ := Aside0.mk (blk_below (g := gb221) (o := .cells #[.bool a0_0, .slice A0_1 l0_1.length c0_1, .string a0_2, .string a0_3] 24 (0, 0)) (by (with_reducible repeat (first | refine blk_drewN ?_ _ | refine blk_drew ?_ | refine blk_alloc ?_ _)); exact BK221.out) hb); have n1_ := Aside0.mk (blk_below (g := gb222) (o := .cells #[.bool a1_0, .slice A1_1 l1_1.length c1_1, .string a1_2, .string a1_3] 24 (0, 0)) (by (with_reducible repeat (first | refine blk_drewN ?_ _ | refine blk_drew ?_ | refine blk_alloc ?_ _)); exact BK222.out) hb); have n2_ := Aside0.mk (below_step (by repeat (first | (with_reducible first | exact HB.out | apply below_alloc | apply pw_below_drewN | apply below_drew1 | refine below_set ?_ GE221.out | refine below_set ?_ GE222.out) | exact HB.out)) hb); clear BK221; clear BK222; clear HB; have BK221 := n0_; have BK222 := n1_; have HB := n2_; clear n0_ n1_ n2_; (try clear hb); (try clear hb2); (try clear hk); (try clear hi); have hcz12_0 : w11.cell? ⟨gb221, 0, none⟩ = some (.bool a0_0) := (blk_cell BK221.out 0).trans rfl; have hcz12_1 : w11.cell? ⟨gb221, 1, none⟩ = some (.slice A0_1 l0_1.length c0_1) := (blk_cell BK221.out 1).trans rfl; have hcz12_2 : w11.cell? ⟨gb221, 2, none⟩ = some (.string a0_2) := (blk_cell BK221.out 2).trans rfl; have hcz12_3 : w11.cell? ⟨gb221, 3, none⟩ = some (.string a0_3) := (blk_cell BK221.out 3).trans rfl; have hfz12_0 := blk_frozen BK221.out 0; have hfz12_1 := blk_frozen BK221.out 1; have hfz12_2 := blk_frozen BK221.out 2; have hfz12_3 := blk_frozen BK221.out 3; have hcz13_0 : w11.cell? ⟨gb222, 0, none⟩ = some (.bool a1_0) := (blk_cell BK222.out 0).trans rfl; have hcz13_1 : w11.cell? ⟨gb222, 1, none⟩ = some (.slice A1_1 l1_1.length c1_1) := (blk_cell BK222.out 1).trans rfl; have hcz13_2 : w11.cell? ⟨gb222, 2, none⟩ = some (.string a1_2) := (blk_cell BK222.out 2).trans rfl; have hcz13_3 : w11.cell? ⟨gb222, 3, none⟩ = some (.string a1_3) := (blk_cell BK222.out 3).trans rfl; have hfz13_0 := blk_frozen BK222.out 0; have hfz13_1 := blk_frozen BK222.out 1; have hfz13_2 := blk_frozen BK222.out 2; have hfz13_3 := blk_frozen BK222.out 3) | ((with_reducible refine gate_callee (f := 21) rfl ?_); refine goesL_ (some 23) rfl rfl Tryz.func21 (by kernel_rfl) rfl #[.int .i64 (l0_1.length : Int), .int .i64 (l1_1.length : Int)] rfl (by (try simp only [List.map_toArray, List.map_cons, List.map_nil]); first | done | rfl | (simp only [List.length_drop, List.length_take]; rfl)) ?_; (with_reducible refine (spec_orderInts.calls (l0_1.length : Int) (l1_1.length : Int) t225 _ A5.out).mono ?_); rintro e w' ⟨rfl, ⟨nd, rfl⟩⟩; refine ⟨_, rfl, ?_⟩))
   go_ret2
   exact ⟨by first | rfl | (simp [errW_none, errW_some] <;> rfl) | (simp [*, errW_none, errW_some] <;> rfl) | (simp [bne_nil_]; done), by repeat (first | (with_reducible first | exact HB.out | apply below_alloc | apply pw_below_drewN | apply below_drew1 | refine below_set ?_ GE221.out | refine below_set ?_ GE222.out) | exact HB.out)⟩
 · rw [if_neg c4] at H
   have c4b0 : (t223 == 0) = false := beq_eq_false_iff_ne.mpr c4
   have c4b1 : (t223 != 0) = true := bne_iff_ne.mpr c4
   simp only [Option.some.injEq, Prod.mk.injEq] at H
   obtain ⟨rfl, rfl⟩ := H
   go_enter Tryz.func10, Tryz.ntmps10
   go_wp2_with (first | ((with_reducible refine gate_dst (N := 2) rfl ?_); refine box_event ?hg (N := 2) ?hd (cs := #[.bool a0_0, .slice A0_1 l0_1.length c0_1, .string a0_2, .string a0_3]) (t := 24) ?hr ?_; (case hd => rfl); (case hg => rfl); (case hr => first | (go_simp; done) | (go_simp; rfl)); intro gb221 hg w14 hbox hb; have n0_ := Aside0.mk (below_step (by repeat (first | (with_reducible first | exact HB.out | apply below_alloc | apply pw_below_drewN | apply below_drew1) | exact HB.out)) hb); have n1_ := Aside0.mk (hbox); have n2_ := Aside0.mk ((by rw [hg]; exact (below_size (by repeat (first | (with_reducible first | exact HB.out | apply below_alloc | apply pw_below_drewN | apply below_drew1) | exact HB.out))) : w.heap.size ≤ gb221)); have n3_ := Aside0.mk ((by rw [hg]; exact (below_size (by repeat (first | (with_reducible first | exact HB.out | apply below_alloc | apply pw_below_drewN | apply below_drew1) | exact HB.out))) : w.heap.size ≤ gb221)); clear HB; have HB := n0_; have BK221 := n1_; have GW221 := n2_; have GE221 := n3_; clear n0_ n1_ n2_ n3_; clear hb hbox hg) | ((with_reducible refine gate_dst (N := 3) rfl ?_); refine box_event ?hg (N := 3) ?hd (cs := #[.bool a1_0, .slice A1_1 l1_1.length c1_1, .string a1_2, .string a1_3]) (t := 24) ?hr ?_; (case hd => rfl); (case hg => rfl); (case hr => first | (go_simp; done) | (go_simp; rfl)); intro gb222 hg w15 hbox hb; have n0_ := Aside0.mk (blk_below (g := gb221) (o := .cells #[.bool a0_0, .slice A0_1 l0_1.length c0_1, .string a0_2, .string a0_3] 24 (0, 0)) (by (with_reducible repeat (first | refine blk_drewN ?_ _ | refine blk_drew ?_ | refine blk_alloc ?_ _)); exact BK221.out) hb); have n1_ := Aside0.mk (below_step (by repeat (first | (with_reducible first | exact HB.out | apply below_alloc | apply pw_below_drewN | apply below_drew1 | refine below_set ?_ GE221.out) | exact HB.out)) hb); have n2_ := Aside0.mk (hbox); have n3_ := Aside0.mk ((by rw [hg]; exact (below_size (by repeat (first | (with_reducible first | exact HB.out | apply below_alloc | apply pw_below_drewN | apply below_drew1 | refine below_set ?_ GE221.out) | exact HB.out))) : w.heap.size ≤ gb222)); have n4_ := Aside0.mk ((by rw [hg]; exact (below_size (by repeat (first | (with_reducible first | exact HB.out | apply below_alloc | apply pw_below_drewN | apply below_drew1 | refine below_set ?_ GE221.out) | exact HB.out))) : w.heap.size ≤ gb222)); have n5_ := Aside0.mk ((by rw [hg]; exact Nat.ne_of_lt (blk_lt (g := gb221) (o := .cells #[.bool a0_0, .slice A0_1 l0_1.length c0_1, .string a0_2, .string a0_3] 24 (0, 0)) (by (with_reducible repeat (first | refine blk_drewN ?_ _ | refine blk_drew ?_ | refine blk_alloc ?_ _)); exact BK221.out)) : gb221 ≠ gb222)); have n6_ := Aside0.mk ((by rw [hg]; exact Nat.ne_of_gt (blk_lt (g := gb221) (o := .cells #[.bool a0_0, .slice A0_1 l0_1.length c0_1, .string a0_2, .string a0_3] 24 (0, 0)) (by (with_reducible repeat (first | refine blk_drewN ?_ _ | refine blk_drew ?_ | refine blk_alloc ?_ _)); exact BK221.out)) : gb222 ≠ gb221)); clear BK221; clear HB; have BK221 := n0_; have HB := n1_; have BK222 := n2_; have GW222 := n3_; have GE222 := n4_; have NB221_222 := n5_; have NB222_221 := n6_; clear n0_ n1_ n2_ n3_ n4_ n5_ n6_; clear hb hbox hg; have hnb16 := NB221_222.out; have hnc16 := NB222_221.out; have hcz17_0 : w15.cell? ⟨gb221, 0, none⟩ = some (.bool a0_0) := (blk_cell BK221.out 0).trans rfl; have hcz17_1 : w15.cell? ⟨gb221, 1, none⟩ = some (.slice A0_1 l0_1.length c0_1) := (blk_cell BK221.out 1).trans rfl; have hcz17_2 : w15.cell? ⟨gb221, 2, none⟩ = some (.string a0_2) := (blk_cell BK221.out 2).trans rfl; have hcz17_3 : w15.cell? ⟨gb221, 3, none⟩ = some (.string a0_3) := (blk_cell BK221.out 3).trans rfl; have hfz17_0 := blk_frozen BK221.out 0; have hfz17_1 := blk_frozen BK221.out 1; have hfz17_2 := blk_frozen BK221.out 2; have hfz17_3 := blk_frozen BK221.out 3; have hcz18_0 : w15.cell? ⟨gb222, 0, none⟩ = some (.bool a1_0) := (blk_cell BK222.out 0).trans rfl; have hcz18_1 : w15.cell? ⟨gb222, 1, none⟩ = some (.slice A1_1 l1_1.length c1_1) := (blk_cell BK222.out 1).trans rfl; have hcz18_2 : w15.cell? ⟨gb222, 2, none⟩ = some (.string a1_2) := (blk_cell BK222.out 2).trans rfl; have hcz18_3 : w15.cell? ⟨gb222, 3, none⟩ = some (.string a1_3) := (blk_cell BK222.out 3).trans rfl; have hfz18_0 := blk_frozen BK222.out 0; have hfz18_1 := blk_frozen BK222.out 1; have hfz18_2 := blk_frozen BK222.out 2; have hfz18_3 := blk_frozen BK222.out 3) | ((with_reducible refine gate_callee (f := 7) rfl ?_); refine goesL_ (some 11) rfl rfl Tryz.func7 (by kernel_rfl) rfl #[.agg #[.bool a0_0, .slice A0_1 l0_1.length c0_1, .string a0_2, .string a0_3], .agg #[.bool a1_0, .slice A1_1 l1_1.length c1_1, .string a1_2, .string a1_3]] rfl (by (try simp only [List.map_toArray, List.map_cons, List.map_nil]); first | done | rfl | (simp only [List.length_drop, List.length_take]; rfl)) ?_; (with_reducible refine (spec_NuGetCompare.calls k a0_0 _ _ l0_1 a0_2 a0_3 a1_0 _ _ l1_1 a1_2 a1_3 t223 t224 _ ?side1 ?side2 ?side3 ?side4 A3.out).mono ?_); (case side1 => repeat (first | exact (Kd.C_below HR0_1.out HB.out) | (with_reducible refine Kd.C_alloc ?_ _) | (with_reducible refine Kd.C_drewN ?_ _) | (with_reducible refine Kd.C_drew ?_))); (case side2 => exact HC0_1.out); (case side3 => repeat (first | exact (Kd.C_below HR1_1.out HB.out) | (with_reducible refine Kd.C_alloc ?_ _) | (with_reducible refine Kd.C_drewN ?_ _) | (with_reducible refine Kd.C_drew ?_))); (case side4 => exact HC1_1.out); rintro e w19 ⟨rfl, hb⟩; refine ⟨_, rfl, ?_⟩; have n0_ := Aside0.mk (blk_below (g := gb221) (o := .cells #[.bool a0_0, .slice A0_1 l0_1.length c0_1, .string a0_2, .string a0_3] 24 (0, 0)) (by (with_reducible repeat (first | refine blk_drewN ?_ _ | refine blk_drew ?_ | refine blk_alloc ?_ _)); exact BK221.out) hb); have n1_ := Aside0.mk (blk_below (g := gb222) (o := .cells #[.bool a1_0, .slice A1_1 l1_1.length c1_1, .string a1_2, .string a1_3] 24 (0, 0)) (by (with_reducible repeat (first | refine blk_drewN ?_ _ | refine blk_drew ?_ | refine blk_alloc ?_ _)); exact BK222.out) hb); have n2_ := Aside0.mk (below_step (by repeat (first | (with_reducible first | exact HB.out | apply below_alloc | apply pw_below_drewN | apply below_drew1 | refine below_set ?_ GE221.out | refine below_set ?_ GE222.out) | exact HB.out)) hb); clear BK221; clear BK222; clear HB; have BK221 := n0_; have BK222 := n1_; have HB := n2_; clear n0_ n1_ n2_; (try clear hb); (try clear hb2); (try clear hk); (try clear hi)))
   go_ret2
   exact ⟨by first | rfl | (simp [errW_none, errW_some] <;> rfl) | (simp [*, errW_none, errW_some] <;> rfl) | (simp [bne_nil_]; done), by repeat (first | (with_reducible first | exact HB.out | apply below_alloc | apply pw_below_drewN | apply below_drew1 | refine below_set ?_ GE221.out | refine below_set ?_ GE222.out) | exact HB.out)⟩

-- NOT PRINTED: function 22 (semantic_ZZHackage)

-- NOT PRINTED: function 34 (semantic_HackageVersion_compare)

-- NOT PRINTED: function 23 (semantic_HackageVersion_Compare)

-- GIVEN: function 11 (impl_HackageCompare)

-- NOT PRINTED: function 4 (laws_FnHackage)

end Go.Proofs.YtdpeadckejhloaaGreatDoor.QH
