-- Written by a working copy of the kit's print program, turned at a few places by wip/tool/mkprint.py. Lean checks it.
import Derived.Test.YtdliagehkiihpaaGreatDoorQUx0
import Derived.Test.YtdliagehkiihpaaGreatDoorQUx1
import Derived.Test.YtdliagehkiihpaaGreatDoorQUx2
namespace Go.Proofs.YtdliagehkiihpaaGreatDoor.QU
open Go.RowKit Go.Proofs.YtdliagehkiihpaaGreatDoorW.PrintWords Go.Proofs.YtdliagehkiihpaaGreatDoorW.PrintLast Go.Proofs.YtdliagehkiihpaaGreatDoorW.PrintMore
attribute [local go_sem] max2_int min2_int max_two min_two max_three min_three max_four min_four   -- for this text's walks alone
set_option linter.unusedVariables false
set_option linter.unusedSimpArgs false

/-! ### spec_Precedence: function 13 -/
mutual
def spec_Precedence.j0 : Nat → ByteArray → ByteArray → Int → Int → Option (Int × Bool)
  | 0, _, _, _, _ => none
  | k + 1, x0, x1, x2, x3 => (spec_CoreOf.f k x0 x2 x3).bind fun bt157 => ((spec_CoreOf.f k x1 x2 x3).bind fun bt165 => (if bt157.2.2.2 = true then (spec_Precedence.j1 k x3 bt157.1 bt157.2.1 bt165.1 bt165.2.1 (!bt165.2.2.2)) else (spec_Precedence.j1 k x3 bt157.1 bt157.2.1 bt165.1 bt165.2.1 true)))
def spec_Precedence.j1 : Nat → Int → List ByteArray → List ByteArray → List ByteArray → List ByteArray → Bool → Option (Int × Bool)
  | 0, _, _, _, _, _, _ => none
  | k + 1, x3, x12, x13, x16, x17, x54 => if x54 = true then (some (0, false)) else (spec_Precedence.l0 k x3 x12 x13 x16 x17 0)
def spec_Precedence.l0 : Nat → Int → List ByteArray → List ByteArray → List ByteArray → List ByteArray → Int → Option (Int × Bool)
  | 0, _, _, _, _, _, _ => none
  | k + 1, x3, x12, x13, x16, x17, x20 => if x20 < x3 then (if x20 < (x12.length : Int) then (if 0 ≤ x20 then (spec_Precedence.j3 k x3 x12 x13 x16 x17 x20 (rdOf ByteArray.empty x12 x20) (⟨#[48]⟩ : ByteArray)) else (none)) else (spec_Precedence.j3 k x3 x12 x13 x16 x17 x20 (⟨#[48]⟩ : ByteArray) (⟨#[48]⟩ : ByteArray))) else (if (x13.length : Int) = 0 then (spec_Precedence.j4 k x13 x17 true) else (spec_Precedence.j4 k x13 x17 ((x17.length : Int) == 0)))
def spec_Precedence.j3 : Nat → Int → List ByteArray → List ByteArray → List ByteArray → List ByteArray → Int → ByteArray → ByteArray → Option (Int × Bool)
  | 0, _, _, _, _, _, _, _, _ => none
  | k + 1, x3, x12, x13, x16, x17, x20, x21, x22 => if x20 < (x16.length : Int) then (if 0 ≤ x20 then ((spec_orderNumbers.f k x21 (rdOf ByteArray.empty x16 x20)).bind fun t175 => (if t175 = 0 then (spec_Precedence.l0 k x3 x12 x13 x16 x17 (wrap64 (x20 + 1))) else (some (t175, true)))) else (none)) else ((spec_orderNumbers.f k x21 x22).bind fun t176 => (if t176 = 0 then (spec_Precedence.l0 k x3 x12 x13 x16 x17 (wrap64 (x20 + 1))) else (some (t176, true))))
def spec_Precedence.j4 : Nat → List ByteArray → List ByteArray → Bool → Option (Int × Bool)
  | 0, _, _, _ => none
  | k + 1, x13, x17, x89 => if x89 = true then ((spec_orderInts.f (mn (x17.length : Int) 1) (mn (x13.length : Int) 1)).bind fun t177 => (some (t177, true))) else (spec_Precedence.l1 k x13 x17 0)
def spec_Precedence.l1 : Nat → List ByteArray → List ByteArray → Int → Option (Int × Bool)
  | 0, _, _, _ => none
  | k + 1, x13, x17, x24 => if x24 < (x13.length : Int) then (spec_Precedence.j6 k x13 x17 x24 (decide (x24 < (x17.length : Int)))) else (spec_Precedence.j6 k x13 x17 x24 false)
def spec_Precedence.j6 : Nat → List ByteArray → List ByteArray → Int → Bool → Option (Int × Bool)
  | 0, _, _, _, _ => none
  | k + 1, x13, x17, x24, x106 => if x106 = true then (if 0 ≤ x24 then (if x24 < (x13.length : Int) then (if x24 < (x17.length : Int) then ((spec_pageOne.f k (rdOf ByteArray.empty x13 x24) (rdOf ByteArray.empty x17 x24)).bind fun t180 => (if t180 = 0 then (spec_Precedence.l1 k x13 x17 (wrap64 (x24 + 1))) else (some (t180, true)))) else (none)) else (none)) else (none)) else ((spec_orderInts.f (x13.length : Int) (x17.length : Int)).bind fun t181 => (some (t181, true)))
end
def spec_Precedence.f (k : Nat) (a0 : ByteArray) (a1 : ByteArray) (a2 : Int) (a3 : Int) (a4 : Bool) : Option (Int × Bool) := if a4 = true then ((Giv.spec_lower.f a0).bind fun t155 => ((Giv.spec_lower.f a1).bind fun t156 => (spec_Precedence.j0 k t155 t156 a2 a3))) else (spec_Precedence.j0 k a0 a1 a2 a3)
theorem spec_Precedence.mono_l : ∀ k, (∀ y0 y1 y2 y3, LeO (spec_Precedence.j0 k y0 y1 y2 y3) (spec_Precedence.j0 (k + 1) y0 y1 y2 y3)) ∧ (∀ y0 y1 y2 y3 y4 y5, LeO (spec_Precedence.j1 k y0 y1 y2 y3 y4 y5) (spec_Precedence.j1 (k + 1) y0 y1 y2 y3 y4 y5)) ∧ (∀ y0 y1 y2 y3 y4 y5, LeO (spec_Precedence.l0 k y0 y1 y2 y3 y4 y5) (spec_Precedence.l0 (k + 1) y0 y1 y2 y3 y4 y5)) ∧ (∀ y0 y1 y2 y3 y4 y5 y6 y7, LeO (spec_Precedence.j3 k y0 y1 y2 y3 y4 y5 y6 y7) (spec_Precedence.j3 (k + 1) y0 y1 y2 y3 y4 y5 y6 y7)) ∧ (∀ y0 y1 y2, LeO (spec_Precedence.j4 k y0 y1 y2) (spec_Precedence.j4 (k + 1) y0 y1 y2)) ∧ (∀ y0 y1 y2, LeO (spec_Precedence.l1 k y0 y1 y2) (spec_Precedence.l1 (k + 1) y0 y1 y2)) ∧ (∀ y0 y1 y2 y3, LeO (spec_Precedence.j6 k y0 y1 y2 y3) (spec_Precedence.j6 (k + 1) y0 y1 y2 y3))
  | 0 => ⟨fun _ _ _ _ r h => by simp [spec_Precedence.j0] at h, fun _ _ _ _ _ _ r h => by simp [spec_Precedence.j1] at h, fun _ _ _ _ _ _ r h => by simp [spec_Precedence.l0] at h, fun _ _ _ _ _ _ _ _ r h => by simp [spec_Precedence.j3] at h, fun _ _ _ r h => by simp [spec_Precedence.j4] at h, fun _ _ _ r h => by simp [spec_Precedence.l1] at h, fun _ _ _ _ r h => by simp [spec_Precedence.j6] at h⟩
  | k + 1 => by
    obtain ⟨ih0, ih1, ih2, ih3, ih4, ih5, ih6⟩ := spec_Precedence.mono_l k
    refine ⟨?_, ?_, ?_, ?_, ?_, ?_, ?_⟩
    · intro y0 y1 y2 y3
      unfold spec_Precedence.j0
      repeat' first
      | (with_reducible exact ih0 _ _ _ _)
      | (with_reducible exact ih1 _ _ _ _ _ _)
      | (with_reducible exact ih2 _ _ _ _ _ _)
      | (with_reducible exact ih3 _ _ _ _ _ _ _ _)
      | (with_reducible exact ih4 _ _ _)
      | (with_reducible exact ih5 _ _ _)
      | (with_reducible exact ih6 _ _ _ _)
      | (with_reducible exact spec_CoreOf.mono _ _ _ _)
      | (with_reducible exact spec_orderNumbers.mono _ _ _)
      | (with_reducible exact spec_pageOne.mono _ _ _)
      | (with_reducible exact LeO.refl _)
      | (with_reducible exact LeO.none _)
      | (with_reducible refine LeO.ite ?_ ?_)
      | (with_reducible refine LeO.bind ?_ (fun _ => ?_))
      | exact ih0 _ _ _ _
      | exact ih1 _ _ _ _ _ _
      | exact ih2 _ _ _ _ _ _
      | exact ih3 _ _ _ _ _ _ _ _
      | exact ih4 _ _ _
      | exact ih5 _ _ _
      | exact ih6 _ _ _ _
      | exact spec_CoreOf.mono _ _ _ _
      | exact spec_orderNumbers.mono _ _ _
      | exact spec_pageOne.mono _ _ _
      | exact LeO.none _
      | refine LeO.ite ?_ ?_
      | refine LeO.bind ?_ (fun _ => ?_)
    · intro y0 y1 y2 y3 y4 y5
      unfold spec_Precedence.j1
      repeat' first
      | (with_reducible exact ih0 _ _ _ _)
      | (with_reducible exact ih1 _ _ _ _ _ _)
      | (with_reducible exact ih2 _ _ _ _ _ _)
      | (with_reducible exact ih3 _ _ _ _ _ _ _ _)
      | (with_reducible exact ih4 _ _ _)
      | (with_reducible exact ih5 _ _ _)
      | (with_reducible exact ih6 _ _ _ _)
      | (with_reducible exact spec_CoreOf.mono _ _ _ _)
      | (with_reducible exact spec_orderNumbers.mono _ _ _)
      | (with_reducible exact spec_pageOne.mono _ _ _)
      | (with_reducible exact LeO.refl _)
      | (with_reducible exact LeO.none _)
      | (with_reducible refine LeO.ite ?_ ?_)
      | (with_reducible refine LeO.bind ?_ (fun _ => ?_))
      | exact ih0 _ _ _ _
      | exact ih1 _ _ _ _ _ _
      | exact ih2 _ _ _ _ _ _
      | exact ih3 _ _ _ _ _ _ _ _
      | exact ih4 _ _ _
      | exact ih5 _ _ _
      | exact ih6 _ _ _ _
      | exact spec_CoreOf.mono _ _ _ _
      | exact spec_orderNumbers.mono _ _ _
      | exact spec_pageOne.mono _ _ _
      | exact LeO.none _
      | refine LeO.ite ?_ ?_
      | refine LeO.bind ?_ (fun _ => ?_)
    · intro y0 y1 y2 y3 y4 y5
      unfold spec_Precedence.l0
      repeat' first
      | (with_reducible exact ih0 _ _ _ _)
      | (with_reducible exact ih1 _ _ _ _ _ _)
      | (with_reducible exact ih2 _ _ _ _ _ _)
      | (with_reducible exact ih3 _ _ _ _ _ _ _ _)
      | (with_reducible exact ih4 _ _ _)
      | (with_reducible exact ih5 _ _ _)
      | (with_reducible exact ih6 _ _ _ _)
      | (with_reducible exact spec_CoreOf.mono _ _ _ _)
      | (with_reducible exact spec_orderNumbers.mono _ _ _)
      | (with_reducible exact spec_pageOne.mono _ _ _)
      | (with_reducible exact LeO.refl _)
      | (with_reducible exact LeO.none _)
      | (with_reducible refine LeO.ite ?_ ?_)
      | (with_reducible refine LeO.bind ?_ (fun _ => ?_))
      | exact ih0 _ _ _ _
      | exact ih1 _ _ _ _ _ _
      | exact ih2 _ _ _ _ _ _
      | exact ih3 _ _ _ _ _ _ _ _
      | exact ih4 _ _ _
      | exact ih5 _ _ _
      | exact ih6 _ _ _ _
      | exact spec_CoreOf.mono _ _ _ _
      | exact spec_orderNumbers.mono _ _ _
      | exact spec_pageOne.mono _ _ _
      | exact LeO.none _
      | refine LeO.ite ?_ ?_
      | refine LeO.bind ?_ (fun _ => ?_)
    · intro y0 y1 y2 y3 y4 y5 y6 y7
      unfold spec_Precedence.j3
      repeat' first
      | (with_reducible exact ih0 _ _ _ _)
      | (with_reducible exact ih1 _ _ _ _ _ _)
      | (with_reducible exact ih2 _ _ _ _ _ _)
      | (with_reducible exact ih3 _ _ _ _ _ _ _ _)
      | (with_reducible exact ih4 _ _ _)
      | (with_reducible exact ih5 _ _ _)
      | (with_reducible exact ih6 _ _ _ _)
      | (with_reducible exact spec_CoreOf.mono _ _ _ _)
      | (with_reducible exact spec_orderNumbers.mono _ _ _)
      | (with_reducible exact spec_pageOne.mono _ _ _)
      | (with_reducible exact LeO.refl _)
      | (with_reducible exact LeO.none _)
      | (with_reducible refine LeO.ite ?_ ?_)
      | (with_reducible refine LeO.bind ?_ (fun _ => ?_))
      | exact ih0 _ _ _ _
      | exact ih1 _ _ _ _ _ _
      | exact ih2 _ _ _ _ _ _
      | exact ih3 _ _ _ _ _ _ _ _
      | exact ih4 _ _ _
      | exact ih5 _ _ _
      | exact ih6 _ _ _ _
      | exact spec_CoreOf.mono _ _ _ _
      | exact spec_orderNumbers.mono _ _ _
      | exact spec_pageOne.mono _ _ _
      | exact LeO.none _
      | refine LeO.ite ?_ ?_
      | refine LeO.bind ?_ (fun _ => ?_)
    · intro y0 y1 y2
      unfold spec_Precedence.j4
      repeat' first
      | (with_reducible exact ih0 _ _ _ _)
      | (with_reducible exact ih1 _ _ _ _ _ _)
      | (with_reducible exact ih2 _ _ _ _ _ _)
      | (with_reducible exact ih3 _ _ _ _ _ _ _ _)
      | (with_reducible exact ih4 _ _ _)
      | (with_reducible exact ih5 _ _ _)
      | (with_reducible exact ih6 _ _ _ _)
      | (with_reducible exact spec_CoreOf.mono _ _ _ _)
      | (with_reducible exact spec_orderNumbers.mono _ _ _)
      | (with_reducible exact spec_pageOne.mono _ _ _)
      | (with_reducible exact LeO.refl _)
      | (with_reducible exact LeO.none _)
      | (with_reducible refine LeO.ite ?_ ?_)
      | (with_reducible refine LeO.bind ?_ (fun _ => ?_))
      | exact ih0 _ _ _ _
      | exact ih1 _ _ _ _ _ _
      | exact ih2 _ _ _ _ _ _
      | exact ih3 _ _ _ _ _ _ _ _
      | exact ih4 _ _ _
      | exact ih5 _ _ _
      | exact ih6 _ _ _ _
      | exact spec_CoreOf.mono _ _ _ _
      | exact spec_orderNumbers.mono _ _ _
      | exact spec_pageOne.mono _ _ _
      | exact LeO.none _
      | refine LeO.ite ?_ ?_
      | refine LeO.bind ?_ (fun _ => ?_)
    · intro y0 y1 y2
      unfold spec_Precedence.l1
      repeat' first
      | (with_reducible exact ih0 _ _ _ _)
      | (with_reducible exact ih1 _ _ _ _ _ _)
      | (with_reducible exact ih2 _ _ _ _ _ _)
      | (with_reducible exact ih3 _ _ _ _ _ _ _ _)
      | (with_reducible exact ih4 _ _ _)
      | (with_reducible exact ih5 _ _ _)
      | (with_reducible exact ih6 _ _ _ _)
      | (with_reducible exact spec_CoreOf.mono _ _ _ _)
      | (with_reducible exact spec_orderNumbers.mono _ _ _)
      | (with_reducible exact spec_pageOne.mono _ _ _)
      | (with_reducible exact LeO.refl _)
      | (with_reducible exact LeO.none _)
      | (with_reducible refine LeO.ite ?_ ?_)
      | (with_reducible refine LeO.bind ?_ (fun _ => ?_))
      | exact ih0 _ _ _ _
      | exact ih1 _ _ _ _ _ _
      | exact ih2 _ _ _ _ _ _
      | exact ih3 _ _ _ _ _ _ _ _
      | exact ih4 _ _ _
      | exact ih5 _ _ _
      | exact ih6 _ _ _ _
      | exact spec_CoreOf.mono _ _ _ _
      | exact spec_orderNumbers.mono _ _ _
      | exact spec_pageOne.mono _ _ _
      | exact LeO.none _
      | refine LeO.ite ?_ ?_
      | refine LeO.bind ?_ (fun _ => ?_)
    · intro y0 y1 y2 y3
      unfold spec_Precedence.j6
      repeat' first
      | (with_reducible exact ih0 _ _ _ _)
      | (with_reducible exact ih1 _ _ _ _ _ _)
      | (with_reducible exact ih2 _ _ _ _ _ _)
      | (with_reducible exact ih3 _ _ _ _ _ _ _ _)
      | (with_reducible exact ih4 _ _ _)
      | (with_reducible exact ih5 _ _ _)
      | (with_reducible exact ih6 _ _ _ _)
      | (with_reducible exact spec_CoreOf.mono _ _ _ _)
      | (with_reducible exact spec_orderNumbers.mono _ _ _)
      | (with_reducible exact spec_pageOne.mono _ _ _)
      | (with_reducible exact LeO.refl _)
      | (with_reducible exact LeO.none _)
      | (with_reducible refine LeO.ite ?_ ?_)
      | (with_reducible refine LeO.bind ?_ (fun _ => ?_))
      | exact ih0 _ _ _ _
      | exact ih1 _ _ _ _ _ _
      | exact ih2 _ _ _ _ _ _
      | exact ih3 _ _ _ _ _ _ _ _
      | exact ih4 _ _ _
      | exact ih5 _ _ _
      | exact ih6 _ _ _ _
      | exact spec_CoreOf.mono _ _ _ _
      | exact spec_orderNumbers.mono _ _ _
      | exact spec_pageOne.mono _ _ _
      | exact LeO.none _
      | refine LeO.ite ?_ ?_
      | refine LeO.bind ?_ (fun _ => ?_)
theorem spec_Precedence.mono : ∀ a0 a1 a2 a3 a4 k, LeO (spec_Precedence.f k a0 a1 a2 a3 a4) (spec_Precedence.f (k + 1) a0 a1 a2 a3 a4) := by
  intro a0 a1 a2 a3 a4 k
  obtain ⟨ih0, ih1, ih2, ih3, ih4, ih5, ih6⟩ := spec_Precedence.mono_l k
  unfold spec_Precedence.f
  repeat' first
      | (with_reducible exact ih0 _ _ _ _)
      | (with_reducible exact ih1 _ _ _ _ _ _)
      | (with_reducible exact ih2 _ _ _ _ _ _)
      | (with_reducible exact ih3 _ _ _ _ _ _ _ _)
      | (with_reducible exact ih4 _ _ _)
      | (with_reducible exact ih5 _ _ _)
      | (with_reducible exact ih6 _ _ _ _)
      | (with_reducible exact spec_CoreOf.mono _ _ _ _)
      | (with_reducible exact spec_orderNumbers.mono _ _ _)
      | (with_reducible exact spec_pageOne.mono _ _ _)
      | (with_reducible exact LeO.refl _)
      | (with_reducible exact LeO.none _)
      | (with_reducible refine LeO.ite ?_ ?_)
      | (with_reducible refine LeO.bind ?_ (fun _ => ?_))
      | exact ih0 _ _ _ _
      | exact ih1 _ _ _ _ _ _
      | exact ih2 _ _ _ _ _ _
      | exact ih3 _ _ _ _ _ _ _ _
      | exact ih4 _ _ _
      | exact ih5 _ _ _
      | exact ih6 _ _ _ _
      | exact spec_CoreOf.mono _ _ _ _
      | exact spec_orderNumbers.mono _ _ _
      | exact spec_pageOne.mono _ _ _
      | exact LeO.none _
      | refine LeO.ite ?_ ?_
      | refine LeO.bind ?_ (fun _ => ?_)
set_option maxHeartbeats 8000000 in
set_option maxRecDepth 100000 in
theorem spec_Precedence.calls (k : Nat) (a0 : ByteArray) (a1 : ByteArray) (a2 : Int) (a3 : Int) (a4 : Bool) (r1 : Int) (r2 : Bool) (w : World) (h : spec_Precedence.f k a0 a1 a2 a3 a4 = some (r1, r2)) :
    Calls Tryz.prog 13 #[.string a0, .string a1, .int .i64 a2, .int .i64 a3, .bool a4] w fun e w' => e = .returned (.tuple #[.int .i64 r1, .bool r2]) ∧ Below w.heap.size w w' := by
  have HB := Aside0.mk (Below.refl w.heap.size w)
  have H : (if a4 = true then ((Giv.spec_lower.f a0).bind fun t155 => ((Giv.spec_lower.f a1).bind fun t156 => (spec_Precedence.j0 k t155 t156 a2 a3))) else (spec_Precedence.j0 k a0 a1 a2 a3)) = some (r1, r2) := h
  clear h
  have HC6 := Aside0.mk H
  clear H
  go_enter Tryz.func13, Tryz.ntmps13
  go_upto_if 26 with (fail)
  repeat (go_quiet (fail); go_upto_if 26 with (fail))
  go_cut [0, 1] (fun v0 v1 wc => ∃ (kq : Nat) (x0_5 : ByteArray) (x1_5 : ByteArray), v0 = .string x0_5 ∧ v1 = .string x1_5 ∧ Aside0 (spec_Precedence.j0 kq x0_5 x1_5 a2 a3 = some (r1, r2)) ∧ Aside0 (kq ≤ k) ∧ Aside0 (Below w.heap.size w wc))
  case first =>
    have H := HC6.out
    clear HC6
    by_cases c7 : a4 = true
    · subst c7
      have H1 : ((Giv.spec_lower.f a0).bind fun t155 => ((Giv.spec_lower.f a1).bind fun t156 => (spec_Precedence.j0 k t155 t156 a2 a3))) = some (r1, r2) := by rw [if_pos rfl] at H; exact H
      clear H
      have H := H1
      clear H1
      replace H := Option.bind_eq_some_iff.mp H
      obtain ⟨t155, A80, H⟩ := H
      replace H : ((Giv.spec_lower.f a1).bind fun t156 => (spec_Precedence.j0 k t155 t156 a2 a3)) = some (r1, r2) := H
      have A8 := Aside0.mk A80
      clear A80
      replace H := Option.bind_eq_some_iff.mp H
      obtain ⟨t156, A90, H⟩ := H
      replace H : (spec_Precedence.j0 k t155 t156 a2 a3) = some (r1, r2) := H
      have A9 := Aside0.mk A90
      clear A90
      have H' := Aside0.mk H
      clear H
      go_wp2_with (first | (go_at_call 26; (with_reducible refine (Giv.spec_lower.calls a0 t155 _ A8.out).mono ?_); rintro e w10 ⟨rfl, hb⟩; have n0_ := Aside0.mk (below_step (by repeat (first | (with_reducible first | exact HB.out | apply below_alloc | apply pw_below_drewN | apply below_drew1) | exact HB.out)) hb); clear HB; have HB := n0_; clear n0_; (try clear hb); (try clear hb2); (try clear hk); (try clear hi)) | (go_at_call 26; (with_reducible refine (Giv.spec_lower.calls a1 t156 _ A9.out).mono ?_); rintro e w11 ⟨rfl, hb⟩; have n0_ := Aside0.mk (below_step (by repeat (first | (with_reducible first | exact HB.out | apply below_alloc | apply pw_below_drewN | apply below_drew1) | exact HB.out)) hb); clear HB; have HB := n0_; clear n0_; (try clear hb); (try clear hb2); (try clear hk); (try clear hi)))
      repeat (go_quiet (first | (go_at_call 26; (with_reducible refine (Giv.spec_lower.calls a0 t155 _ A8.out).mono ?_); rintro e w10 ⟨rfl, hb⟩; have n0_ := Aside0.mk (below_step (by repeat (first | (with_reducible first | exact HB.out | apply below_alloc | apply pw_below_drewN | apply below_drew1) | exact HB.out)) hb); clear HB; have HB := n0_; clear n0_; (try clear hb); (try clear hb2); (try clear hk); (try clear hi)) | (go_at_call 26; (with_reducible refine (Giv.spec_lower.calls a1 t156 _ A9.out).mono ?_); rintro e w11 ⟨rfl, hb⟩; have n0_ := Aside0.mk (below_step (by repeat (first | (with_reducible first | exact HB.out | apply below_alloc | apply pw_below_drewN | apply below_drew1) | exact HB.out)) hb); clear HB; have HB := n0_; clear n0_; (try clear hb); (try clear hb2); (try clear hk); (try clear hi))); try go_wp2_with (first | (go_at_call 26; (with_reducible refine (Giv.spec_lower.calls a0 t155 _ A8.out).mono ?_); rintro e w10 ⟨rfl, hb⟩; have n0_ := Aside0.mk (below_step (by repeat (first | (with_reducible first | exact HB.out | apply below_alloc | apply pw_below_drewN | apply below_drew1) | exact HB.out)) hb); clear HB; have HB := n0_; clear n0_; (try clear hb); (try clear hb2); (try clear hk); (try clear hi)) | (go_at_call 26; (with_reducible refine (Giv.spec_lower.calls a1 t156 _ A9.out).mono ?_); rintro e w11 ⟨rfl, hb⟩; have n0_ := Aside0.mk (below_step (by repeat (first | (with_reducible first | exact HB.out | apply below_alloc | apply pw_below_drewN | apply below_drew1) | exact HB.out)) hb); clear HB; have HB := n0_; clear n0_; (try clear hb); (try clear hb2); (try clear hk); (try clear hi))))
      go_meet
      case rel => exact ⟨_, (t155), (t156), (by first | rfl | (simp; done) | (simp [*]; done) | (simp [bne_nil_]; done)), (by first | rfl | (simp; done) | (simp [*]; done) | (simp [bne_nil_]; done)), H', ⟨by first | omega | exact Nat.le_refl _⟩, ⟨by repeat (first | (with_reducible first | exact HB.out | apply below_alloc | apply pw_below_drewN | apply below_drew1) | exact HB.out)⟩⟩
    · replace c7 := Bool.eq_false_iff.mpr c7
      subst c7
      have H1 : (spec_Precedence.j0 k a0 a1 a2 a3) = some (r1, r2) := by rw [if_neg (show ¬ (false = true) by decide)] at H; exact H
      clear H
      have H := H1
      clear H1
      have H' := Aside0.mk H
      clear H
      go_wp2
      repeat (go_quiet (fail); try go_wp2)
      go_meet
      case rel => exact ⟨_, (a0), (a1), (by first | rfl | (simp; done) | (simp [*]; done) | (simp [bne_nil_]; done)), (by first | rfl | (simp; done) | (simp [*]; done) | (simp [bne_nil_]; done)), H', ⟨by first | omega | exact Nat.le_refl _⟩, ⟨by repeat (first | (with_reducible first | exact HB.out | apply below_alloc | apply pw_below_drewN | apply below_drew1) | exact HB.out)⟩⟩
  case rest =>
    clear HC6
    try clear c1
    try clear p2
    try clear c7
    obtain ⟨kq, x0_5, x1_5, rfl, rfl, HA, HJ5, HB⟩ := hcut
    cases kq with
    | zero => exact absurd HA.out (by simp [spec_Precedence.j0])
    | succ kj5 =>
      have H := HA.out
      clear HA
      simp only [spec_Precedence.j0] at H
      replace H := Option.bind_eq_some_iff.mp H
      obtain ⟨⟨t157, t158, t159, t160⟩, A120, H⟩ := H
      replace H : ((spec_CoreOf.f kj5 x1_5 a2 a3).bind fun bt165 => (if t160 = true then (spec_Precedence.j1 kj5 a3 t157 t158 bt165.1 bt165.2.1 (!bt165.2.2.2)) else (spec_Precedence.j1 kj5 a3 t157 t158 bt165.1 bt165.2.1 true))) = some (r1, r2) := H
      have A12 := Aside0.mk A120
      clear A120
      replace H := Option.bind_eq_some_iff.mp H
      obtain ⟨⟨t165, t166, t167, t168⟩, A130, H⟩ := H
      replace H : (if t160 = true then (spec_Precedence.j1 kj5 a3 t157 t158 t165 t166 (!t168)) else (spec_Precedence.j1 kj5 a3 t157 t158 t165 t166 true)) = some (r1, r2) := H
      have A13 := Aside0.mk A130
      clear A130
      have HC14 := Aside0.mk H
      clear H
      go_upto_region 5 with (first | (go_at_call 27; (with_reducible refine (spec_CoreOf.calls kj5 x0_5 a2 a3 t157 t158 t159 t160 _ A12.out).mono ?_); rintro e w15 ⟨v161, v163, rfl, ho0, ho1, hb⟩; have n0_ := Aside0.mk (Kd.R_lower ho0 (below_size (by repeat (first | (with_reducible first | exact HB.out | apply below_alloc | apply pw_below_drewN | apply below_drew1) | exact HB.out)))); have n1_ := Aside0.mk (Kd.R_lower ho1 (below_size (by repeat (first | (with_reducible first | exact HB.out | apply below_alloc | apply pw_below_drewN | apply below_drew1) | exact HB.out)))); have n2_ := Aside0.mk (below_step (by repeat (first | (with_reducible first | exact HB.out | apply below_alloc | apply pw_below_drewN | apply below_drew1) | exact HB.out)) hb); clear HB; have HO162 := n0_; have HO164 := n1_; have HB := n2_; clear n0_ n1_ n2_; (try clear hb); (try clear hb2); (try clear hk); (try clear hi); (try clear ho0); (try clear ho1)) | (go_at_call 27; (with_reducible refine (spec_CoreOf.calls kj5 x1_5 a2 a3 t165 t166 t167 t168 _ A13.out).mono ?_); rintro e w16 ⟨v169, v171, rfl, ho0, ho1, hb⟩; have n0_ := Aside0.mk (Kd.R_mono (Kd.R_told (Kd.R_told (Kd.R_old (by (with_reducible repeat (first | apply Kd.R_alloc | apply Kd.R_drewN | apply Kd.R_drew)); exact HO162.out) hb) (Kd.R_base ho0)) (Kd.R_base ho1)) (fun _ h_ => h_.1)); have n1_ := Aside0.mk (Kd.R_mono (Kd.R_told (Kd.R_told (Kd.R_old (by (with_reducible repeat (first | apply Kd.R_alloc | apply Kd.R_drewN | apply Kd.R_drew)); exact HO164.out) hb) (Kd.R_base ho0)) (Kd.R_base ho1)) (fun _ h_ => h_.1)); have n2_ := Aside0.mk (Kd.R_lower (Kd.R_new' (Kd.R_new' ho0 (Kd.R_lt (by (with_reducible repeat (first | apply Kd.R_alloc | apply Kd.R_drewN | apply Kd.R_drew)); exact HO162.out))) (Kd.R_lt (by (with_reducible repeat (first | apply Kd.R_alloc | apply Kd.R_drewN | apply Kd.R_drew)); exact HO164.out))) (below_size (by repeat (first | (with_reducible first | exact HB.out | apply below_alloc | apply pw_below_drewN | apply below_drew1) | exact HB.out)))); have n3_ := Aside0.mk (Kd.R_lower (Kd.R_new' (Kd.R_new' ho1 (Kd.R_lt (by (with_reducible repeat (first | apply Kd.R_alloc | apply Kd.R_drewN | apply Kd.R_drew)); exact HO162.out))) (Kd.R_lt (by (with_reducible repeat (first | apply Kd.R_alloc | apply Kd.R_drewN | apply Kd.R_drew)); exact HO164.out))) (below_size (by repeat (first | (with_reducible first | exact HB.out | apply below_alloc | apply pw_below_drewN | apply below_drew1) | exact HB.out)))); have n4_ := Aside0.mk (below_step (by repeat (first | (with_reducible first | exact HB.out | apply below_alloc | apply pw_below_drewN | apply below_drew1) | exact HB.out)) hb); clear HO162; clear HO164; clear HB; have HO162 := n0_; have HO164 := n1_; have HO170 := n2_; have HO172 := n3_; have HB := n4_; clear n0_ n1_ n2_ n3_ n4_; (try clear hb); (try clear hb2); (try clear hk); (try clear hi); (try clear ho0); (try clear ho1)))
      repeat (go_quiet (first | (go_at_call 27; (with_reducible refine (spec_CoreOf.calls kj5 x0_5 a2 a3 t157 t158 t159 t160 _ A12.out).mono ?_); rintro e w15 ⟨v161, v163, rfl, ho0, ho1, hb⟩; have n0_ := Aside0.mk (Kd.R_lower ho0 (below_size (by repeat (first | (with_reducible first | exact HB.out | apply below_alloc | apply pw_below_drewN | apply below_drew1) | exact HB.out)))); have n1_ := Aside0.mk (Kd.R_lower ho1 (below_size (by repeat (first | (with_reducible first | exact HB.out | apply below_alloc | apply pw_below_drewN | apply below_drew1) | exact HB.out)))); have n2_ := Aside0.mk (below_step (by repeat (first | (with_reducible first | exact HB.out | apply below_alloc | apply pw_below_drewN | apply below_drew1) | exact HB.out)) hb); clear HB; have HO162 := n0_; have HO164 := n1_; have HB := n2_; clear n0_ n1_ n2_; (try clear hb); (try clear hb2); (try clear hk); (try clear hi); (try clear ho0); (try clear ho1)) | (go_at_call 27; (with_reducible refine (spec_CoreOf.calls kj5 x1_5 a2 a3 t165 t166 t167 t168 _ A13.out).mono ?_); rintro e w16 ⟨v169, v171, rfl, ho0, ho1, hb⟩; have n0_ := Aside0.mk (Kd.R_mono (Kd.R_told (Kd.R_told (Kd.R_old (by (with_reducible repeat (first | apply Kd.R_alloc | apply Kd.R_drewN | apply Kd.R_drew)); exact HO162.out) hb) (Kd.R_base ho0)) (Kd.R_base ho1)) (fun _ h_ => h_.1)); have n1_ := Aside0.mk (Kd.R_mono (Kd.R_told (Kd.R_told (Kd.R_old (by (with_reducible repeat (first | apply Kd.R_alloc | apply Kd.R_drewN | apply Kd.R_drew)); exact HO164.out) hb) (Kd.R_base ho0)) (Kd.R_base ho1)) (fun _ h_ => h_.1)); have n2_ := Aside0.mk (Kd.R_lower (Kd.R_new' (Kd.R_new' ho0 (Kd.R_lt (by (with_reducible repeat (first | apply Kd.R_alloc | apply Kd.R_drewN | apply Kd.R_drew)); exact HO162.out))) (Kd.R_lt (by (with_reducible repeat (first | apply Kd.R_alloc | apply Kd.R_drewN | apply Kd.R_drew)); exact HO164.out))) (below_size (by repeat (first | (with_reducible first | exact HB.out | apply below_alloc | apply pw_below_drewN | apply below_drew1) | exact HB.out)))); have n3_ := Aside0.mk (Kd.R_lower (Kd.R_new' (Kd.R_new' ho1 (Kd.R_lt (by (with_reducible repeat (first | apply Kd.R_alloc | apply Kd.R_drewN | apply Kd.R_drew)); exact HO162.out))) (Kd.R_lt (by (with_reducible repeat (first | apply Kd.R_alloc | apply Kd.R_drewN | apply Kd.R_drew)); exact HO164.out))) (below_size (by repeat (first | (with_reducible first | exact HB.out | apply below_alloc | apply pw_below_drewN | apply below_drew1) | exact HB.out)))); have n4_ := Aside0.mk (below_step (by repeat (first | (with_reducible first | exact HB.out | apply below_alloc | apply pw_below_drewN | apply below_drew1) | exact HB.out)) hb); clear HO162; clear HO164; clear HB; have HO162 := n0_; have HO164 := n1_; have HO170 := n2_; have HO172 := n3_; have HB := n4_; clear n0_ n1_ n2_ n3_ n4_; (try clear hb); (try clear hb2); (try clear hk); (try clear hi); (try clear ho0); (try clear ho1))); go_upto_region 5 with (first | (go_at_call 27; (with_reducible refine (spec_CoreOf.calls kj5 x0_5 a2 a3 t157 t158 t159 t160 _ A12.out).mono ?_); rintro e w15 ⟨v161, v163, rfl, ho0, ho1, hb⟩; have n0_ := Aside0.mk (Kd.R_lower ho0 (below_size (by repeat (first | (with_reducible first | exact HB.out | apply below_alloc | apply pw_below_drewN | apply below_drew1) | exact HB.out)))); have n1_ := Aside0.mk (Kd.R_lower ho1 (below_size (by repeat (first | (with_reducible first | exact HB.out | apply below_alloc | apply pw_below_drewN | apply below_drew1) | exact HB.out)))); have n2_ := Aside0.mk (below_step (by repeat (first | (with_reducible first | exact HB.out | apply below_alloc | apply pw_below_drewN | apply below_drew1) | exact HB.out)) hb); clear HB; have HO162 := n0_; have HO164 := n1_; have HB := n2_; clear n0_ n1_ n2_; (try clear hb); (try clear hb2); (try clear hk); (try clear hi); (try clear ho0); (try clear ho1)) | (go_at_call 27; (with_reducible refine (spec_CoreOf.calls kj5 x1_5 a2 a3 t165 t166 t167 t168 _ A13.out).mono ?_); rintro e w16 ⟨v169, v171, rfl, ho0, ho1, hb⟩; have n0_ := Aside0.mk (Kd.R_mono (Kd.R_told (Kd.R_told (Kd.R_old (by (with_reducible repeat (first | apply Kd.R_alloc | apply Kd.R_drewN | apply Kd.R_drew)); exact HO162.out) hb) (Kd.R_base ho0)) (Kd.R_base ho1)) (fun _ h_ => h_.1)); have n1_ := Aside0.mk (Kd.R_mono (Kd.R_told (Kd.R_told (Kd.R_old (by (with_reducible repeat (first | apply Kd.R_alloc | apply Kd.R_drewN | apply Kd.R_drew)); exact HO164.out) hb) (Kd.R_base ho0)) (Kd.R_base ho1)) (fun _ h_ => h_.1)); have n2_ := Aside0.mk (Kd.R_lower (Kd.R_new' (Kd.R_new' ho0 (Kd.R_lt (by (with_reducible repeat (first | apply Kd.R_alloc | apply Kd.R_drewN | apply Kd.R_drew)); exact HO162.out))) (Kd.R_lt (by (with_reducible repeat (first | apply Kd.R_alloc | apply Kd.R_drewN | apply Kd.R_drew)); exact HO164.out))) (below_size (by repeat (first | (with_reducible first | exact HB.out | apply below_alloc | apply pw_below_drewN | apply below_drew1) | exact HB.out)))); have n3_ := Aside0.mk (Kd.R_lower (Kd.R_new' (Kd.R_new' ho1 (Kd.R_lt (by (with_reducible repeat (first | apply Kd.R_alloc | apply Kd.R_drewN | apply Kd.R_drew)); exact HO162.out))) (Kd.R_lt (by (with_reducible repeat (first | apply Kd.R_alloc | apply Kd.R_drewN | apply Kd.R_drew)); exact HO164.out))) (below_size (by repeat (first | (with_reducible first | exact HB.out | apply below_alloc | apply pw_below_drewN | apply below_drew1) | exact HB.out)))); have n4_ := Aside0.mk (below_step (by repeat (first | (with_reducible first | exact HB.out | apply below_alloc | apply pw_below_drewN | apply below_drew1) | exact HB.out)) hb); clear HO162; clear HO164; clear HB; have HO162 := n0_; have HO164 := n1_; have HO170 := n2_; have HO172 := n3_; have HB := n4_; clear n0_ n1_ n2_ n3_ n4_; (try clear hb); (try clear hb2); (try clear hk); (try clear hi); (try clear ho0); (try clear ho1))))
      (try simp only [Act.put, List.setIfInBounds_toArray, List.set_cons_zero, List.set_cons_succ])
      go_cut [54] (fun v54 wc => ∃ (kq : Nat) (x54_13 : Bool), v54 = .bool x54_13 ∧ Aside0 (spec_Precedence.j1 kq a3 t157 t158 t165 t166 x54_13 = some (r1, r2)) ∧ Aside0 (kq ≤ kj5) ∧ Aside0 (Kd.R Kd.string 9 wc w.heap.size (fun k_ => some k_ ≠ (v163 : Value).ownBlock ∧ some k_ ≠ (v169 : Value).ownBlock ∧ some k_ ≠ (v171 : Value).ownBlock) v161 t157) ∧ Aside0 (Kd.R Kd.string 9 wc w.heap.size (fun k_ => some k_ ≠ (v161 : Value).ownBlock ∧ some k_ ≠ (v169 : Value).ownBlock ∧ some k_ ≠ (v171 : Value).ownBlock) v163 t158) ∧ Aside0 (Kd.R Kd.string 9 wc w.heap.size (fun k_ => some k_ ≠ (v161 : Value).ownBlock ∧ some k_ ≠ (v163 : Value).ownBlock ∧ some k_ ≠ (v171 : Value).ownBlock) v169 t165) ∧ Aside0 (Kd.R Kd.string 9 wc w.heap.size (fun k_ => some k_ ≠ (v161 : Value).ownBlock ∧ some k_ ≠ (v163 : Value).ownBlock ∧ some k_ ≠ (v169 : Value).ownBlock) v171 t166) ∧ Aside0 (Below w.heap.size w wc))
      case first =>
        have H := HC14.out
        clear HC14
        by_cases c17 : t160 = true
        · subst c17
          have H1 : (spec_Precedence.j1 kj5 a3 t157 t158 t165 t166 (!t168)) = some (r1, r2) := by rw [if_pos rfl] at H; exact H
          clear H
          have H := H1
          clear H1
          have H' := Aside0.mk H
          clear H
          go_wp2
          repeat (go_quiet (fail); try go_wp2)
          go_meet
          case rel => exact ⟨_, (!t168), (by first | rfl | (simp; done) | (simp [*]; done) | (simp [bne_nil_]; done)), H', ⟨by have := HJ5.out; first | omega | exact Nat.le_refl _⟩, ⟨by (with_reducible repeat (first | apply Kd.R_alloc | apply Kd.R_drewN | apply Kd.R_drew)); exact Kd.R_mono HO162.out (fun _ hk => ⟨hk.1.1, ⟨hk.1.2, hk.2⟩⟩)⟩, ⟨by (with_reducible repeat (first | apply Kd.R_alloc | apply Kd.R_drewN | apply Kd.R_drew)); exact Kd.R_mono HO164.out (fun _ hk => ⟨hk.1.1, ⟨hk.1.2, hk.2⟩⟩)⟩, ⟨by (with_reducible repeat (first | apply Kd.R_alloc | apply Kd.R_drewN | apply Kd.R_drew)); exact Kd.R_mono HO170.out (fun _ hk => ⟨hk.1.2, ⟨hk.2, hk.1.1⟩⟩)⟩, ⟨by (with_reducible repeat (first | apply Kd.R_alloc | apply Kd.R_drewN | apply Kd.R_drew)); exact Kd.R_mono HO172.out (fun _ hk => ⟨hk.1.2, ⟨hk.2, hk.1.1⟩⟩)⟩, ⟨by repeat (first | (with_reducible first | exact HB.out | apply below_alloc | apply pw_below_drewN | apply below_drew1) | exact HB.out)⟩⟩
        · replace c17 := Bool.eq_false_iff.mpr c17
          subst c17
          have H1 : (spec_Precedence.j1 kj5 a3 t157 t158 t165 t166 true) = some (r1, r2) := by rw [if_neg (show ¬ (false = true) by decide)] at H; exact H
          clear H
          have H := H1
          clear H1
          have H' := Aside0.mk H
          clear H
          go_wp2
          repeat (go_quiet (fail); try go_wp2)
          go_meet
          case rel => exact ⟨_, (true), (by first | rfl | (simp; done) | (simp [*]; done) | (simp [bne_nil_]; done)), H', ⟨by have := HJ5.out; first | omega | exact Nat.le_refl _⟩, ⟨by (with_reducible repeat (first | apply Kd.R_alloc | apply Kd.R_drewN | apply Kd.R_drew)); exact Kd.R_mono HO162.out (fun _ hk => ⟨hk.1.1, ⟨hk.1.2, hk.2⟩⟩)⟩, ⟨by (with_reducible repeat (first | apply Kd.R_alloc | apply Kd.R_drewN | apply Kd.R_drew)); exact Kd.R_mono HO164.out (fun _ hk => ⟨hk.1.1, ⟨hk.1.2, hk.2⟩⟩)⟩, ⟨by (with_reducible repeat (first | apply Kd.R_alloc | apply Kd.R_drewN | apply Kd.R_drew)); exact Kd.R_mono HO170.out (fun _ hk => ⟨hk.1.2, ⟨hk.2, hk.1.1⟩⟩)⟩, ⟨by (with_reducible repeat (first | apply Kd.R_alloc | apply Kd.R_drewN | apply Kd.R_drew)); exact Kd.R_mono HO172.out (fun _ hk => ⟨hk.1.2, ⟨hk.2, hk.1.1⟩⟩)⟩, ⟨by repeat (first | (with_reducible first | exact HB.out | apply below_alloc | apply pw_below_drewN | apply below_drew1) | exact HB.out)⟩⟩
      case rest =>
        clear HC14
        try clear c1
        try clear p2
        try clear c7
        try clear c13
        try clear c17
        try clear p2
        obtain ⟨kq, x54_13, rfl, HA, HJ13, HO_12, HO_13, HO_16, HO_17, HB⟩ := hcut
        cases kq with
        | zero => exact absurd HA.out (by simp [spec_Precedence.j1])
        | succ kj13 =>
          have H := HA.out
          clear HA
          simp only [spec_Precedence.j1] at H
          by_cases c18 : x54_13 = true
          · subst c18
            have H1 : (some (0, false)) = some (r1, r2) := by rw [if_pos rfl] at H; exact H
            clear H
            have H := H1
            clear H1
            simp only [Option.some.injEq, Prod.mk.injEq] at H
            obtain ⟨rfl, rfl⟩ := H
            go_wp2
            repeat (go_quiet (fail); try go_wp2)
            go_ret2
            exact ⟨by first | rfl | (simp [errW_none, errW_some] <;> rfl) | (simp [*, errW_none, errW_some] <;> rfl) | (simp [bne_nil_]; done), by repeat (first | (with_reducible first | exact HB.out | apply below_alloc | apply pw_below_drewN | apply below_drew1) | exact HB.out)⟩
          · replace c18 := Bool.eq_false_iff.mpr c18
            subst c18
            have H1 : (spec_Precedence.l0 kj13 a3 t157 t158 t165 t166 0) = some (r1, r2) := by rw [if_neg (show ¬ (false = true) by decide)] at H; exact H
            clear H
            have H := H1
            clear H1
            have H' := Aside0.mk H
            clear H
            go_wp2
            repeat (go_quiet (fail); try go_wp2)
            go_loopg [20] kj13 (fun kq v20 w' => ∃ (x20_3 : Int), v20 = .int .i64 x20_3 ∧ Aside0 (spec_Precedence.l0 kq a3 t157 t158 t165 t166 x20_3 = some (r1, r2)) ∧ Aside0 (kq ≤ kj13) ∧ Aside0 (Kd.R Kd.string 9 w' w.heap.size (fun k_ => some k_ ≠ (v163 : Value).ownBlock ∧ some k_ ≠ (v169 : Value).ownBlock ∧ some k_ ≠ (v171 : Value).ownBlock) v161 t157) ∧ Aside0 (Kd.R Kd.string 9 w' w.heap.size (fun k_ => some k_ ≠ (v161 : Value).ownBlock ∧ some k_ ≠ (v169 : Value).ownBlock ∧ some k_ ≠ (v171 : Value).ownBlock) v163 t158) ∧ Aside0 (Kd.R Kd.string 9 w' w.heap.size (fun k_ => some k_ ≠ (v161 : Value).ownBlock ∧ some k_ ≠ (v163 : Value).ownBlock ∧ some k_ ≠ (v171 : Value).ownBlock) v169 t165) ∧ Aside0 (Kd.R Kd.string 9 w' w.heap.size (fun k_ => some k_ ≠ (v161 : Value).ownBlock ∧ some k_ ≠ (v163 : Value).ownBlock ∧ some k_ ≠ (v169 : Value).ownBlock) v171 t166) ∧ Aside0 (Below w.heap.size w w'))
            case atStart => exact ⟨(0), (by first | rfl | (simp; done) | (simp [*]; done) | (simp [bne_nil_]; done)), H', ⟨Nat.le_refl _⟩, ⟨by (with_reducible repeat (first | apply Kd.R_alloc | apply Kd.R_drewN | apply Kd.R_drew)); exact HO_12.out⟩, ⟨by (with_reducible repeat (first | apply Kd.R_alloc | apply Kd.R_drewN | apply Kd.R_drew)); exact HO_13.out⟩, ⟨by (with_reducible repeat (first | apply Kd.R_alloc | apply Kd.R_drewN | apply Kd.R_drew)); exact HO_16.out⟩, ⟨by (with_reducible repeat (first | apply Kd.R_alloc | apply Kd.R_drewN | apply Kd.R_drew)); exact HO_17.out⟩, ⟨by repeat (first | (with_reducible first | exact HB.out | apply below_alloc | apply pw_below_drewN | apply below_drew1) | exact HB.out)⟩⟩
            case round =>
              clear H'
              try clear c1
              try clear p2
              try clear c7
              try clear c13
              try clear c17
              try clear c18
              try clear p2
              obtain ⟨x20_3, rfl, HA, HK3, HO_12, HO_13, HO_16, HO_17, HB⟩ := hrel
              cases gk with
              | zero => exact absurd HA.out (by simp [spec_Precedence.l0])
              | succ k3 =>
                have H := HA.out
                clear HA
                simp only [spec_Precedence.l0] at H
                by_cases c19 : x20_3 < a3
                · rw [if_pos c19] at H
                  have c19b0 : decide (x20_3 < a3) = true := decide_eq_true c19
                  clear c19
                  have HC20 := Aside0.mk H
                  clear H
                  obtain ⟨Ao21, co21, eo21⟩ := Kd.R_slice HO_12.out
                  subst eo21
                  go_upto_if 63 with (fail)
                  repeat (go_quiet (fail); go_upto_if 63 with (fail))
                  go_cut [21] (fun v21 wc => ∃ (kq : Nat) (x21_19 : ByteArray), v21 = .string x21_19 ∧ Aside0 (spec_Precedence.j3 kq a3 t157 t158 t165 t166 x20_3 x21_19 (⟨#[48]⟩ : ByteArray) = some (r1, r2)) ∧ Aside0 (kq ≤ k3) ∧ Aside0 (Kd.R Kd.string 9 wc w.heap.size (fun k_ => some k_ ≠ (v163 : Value).ownBlock ∧ some k_ ≠ (v169 : Value).ownBlock ∧ some k_ ≠ (v171 : Value).ownBlock) (.slice Ao21 t157.length co21) t157) ∧ Aside0 (Kd.R Kd.string 9 wc w.heap.size (fun k_ => some k_ ≠ ((.slice Ao21 t157.length co21) : Value).ownBlock ∧ some k_ ≠ (v169 : Value).ownBlock ∧ some k_ ≠ (v171 : Value).ownBlock) v163 t158) ∧ Aside0 (Kd.R Kd.string 9 wc w.heap.size (fun k_ => some k_ ≠ ((.slice Ao21 t157.length co21) : Value).ownBlock ∧ some k_ ≠ (v163 : Value).ownBlock ∧ some k_ ≠ (v171 : Value).ownBlock) v169 t165) ∧ Aside0 (Kd.R Kd.string 9 wc w.heap.size (fun k_ => some k_ ≠ ((.slice Ao21 t157.length co21) : Value).ownBlock ∧ some k_ ≠ (v163 : Value).ownBlock ∧ some k_ ≠ (v169 : Value).ownBlock) v171 t166) ∧ Aside0 (Below w.heap.size w wc))
                  case first =>
                    have H := HC20.out
                    clear HC20
                    by_cases c22 : x20_3 < (t157.length : Int)
                    · rw [if_pos c22] at H
                      have c22b0 : decide (x20_3 < (t157.length : Int)) = true := decide_eq_true c22
                      clear c22
                      (first | rw [c22b0] | (simp only [i64_w, i32_w]; rw [c22b0]) | skip)
                      by_cases c23 : 0 ≤ x20_3
                      · rw [if_pos c23] at H
                        have c23b0 : decide (0 ≤ x20_3) = true := decide_eq_true c23
                        clear c23
                        have H' := Aside0.mk H
                        clear H
                        have p173 : 0 ≤ (x20_3 : Int) := of_decide_eq_true (by first | (with_reducible assumption) | assumption)
                        have q173 : x20_3 < (t157.length : Int) := of_decide_eq_true (by first | (with_reducible assumption) | assumption)
                        obtain ⟨ad173, e173, hx173_0⟩ := Kd.at_string (Kd.R_reads' HO_12.out).2.2 x20_3 p173 q173
                        cases e173
                        replace p173 := eq_true p173
                        replace q173 := eq_true q173
                        go_wp2
                        repeat (go_quiet (fail); try go_wp2)
                        go_meet
                        case rel => exact ⟨_, (rdOf ByteArray.empty t157 x20_3), (by first | rfl | (simp; done) | (simp [*]; done) | (simp [bne_nil_]; done)), H', ⟨by have := HJ5.out; have := HJ13.out; have := HK3.out; first | omega | exact Nat.le_refl _⟩, ⟨by (with_reducible repeat (first | apply Kd.R_alloc | apply Kd.R_drewN | apply Kd.R_drew)); exact HO_12.out⟩, ⟨by (with_reducible repeat (first | apply Kd.R_alloc | apply Kd.R_drewN | apply Kd.R_drew)); exact HO_13.out⟩, ⟨by (with_reducible repeat (first | apply Kd.R_alloc | apply Kd.R_drewN | apply Kd.R_drew)); exact HO_16.out⟩, ⟨by (with_reducible repeat (first | apply Kd.R_alloc | apply Kd.R_drewN | apply Kd.R_drew)); exact HO_17.out⟩, ⟨by repeat (first | (with_reducible first | exact HB.out | apply below_alloc | apply pw_below_drewN | apply below_drew1) | exact HB.out)⟩⟩
                      · rw [if_neg c23] at H
                        exact absurd H (by simp)
                    · rw [if_neg c22] at H
                      have c22b0 : decide (x20_3 < (t157.length : Int)) = false := decide_eq_false c22
                      clear c22
                      (first | rw [c22b0] | (simp only [i64_w, i32_w]; rw [c22b0]) | skip)
                      have H' := Aside0.mk H
                      clear H
                      go_wp2
                      repeat (go_quiet (fail); try go_wp2)
                      go_meet
                      case rel => exact ⟨_, ((⟨#[48]⟩ : ByteArray)), (by first | rfl | (simp; done) | (simp [*]; done) | (simp [bne_nil_]; done)), H', ⟨by have := HJ5.out; have := HJ13.out; have := HK3.out; first | omega | exact Nat.le_refl _⟩, ⟨by (with_reducible repeat (first | apply Kd.R_alloc | apply Kd.R_drewN | apply Kd.R_drew)); exact HO_12.out⟩, ⟨by (with_reducible repeat (first | apply Kd.R_alloc | apply Kd.R_drewN | apply Kd.R_drew)); exact HO_13.out⟩, ⟨by (with_reducible repeat (first | apply Kd.R_alloc | apply Kd.R_drewN | apply Kd.R_drew)); exact HO_16.out⟩, ⟨by (with_reducible repeat (first | apply Kd.R_alloc | apply Kd.R_drewN | apply Kd.R_drew)); exact HO_17.out⟩, ⟨by repeat (first | (with_reducible first | exact HB.out | apply below_alloc | apply pw_below_drewN | apply below_drew1) | exact HB.out)⟩⟩
                  case rest =>
                    clear HC20
                    try clear c1
                    try clear p1
                    try clear q1
                    try clear hx1
                    try clear c2
                    try clear p2
                    try clear c7
                    try clear c13
                    try clear c17
                    try clear p17
                    try clear q17
                    try clear hx17
                    try clear c18
                    try clear c19
                    try clear c19b0
                    try clear c22
                    try clear c22b0
                    try clear c23
                    try clear c23b0
                    try clear hx173_0
                    try clear p173
                    try clear p2
                    try clear q173
                    obtain ⟨kq, x21_19, rfl, HA, HJ19, HO_12, HO_13, HO_16, HO_17, HB⟩ := hcut
                    cases kq with
                    | zero => exact absurd HA.out (by simp [spec_Precedence.j3])
                    | succ kj19 =>
                      have H := HA.out
                      clear HA
                      simp only [spec_Precedence.j3] at H
                      by_cases c24 : x20_3 < (t165.length : Int)
                      · rw [if_pos c24] at H
                        have c24b0 : decide (x20_3 < (t165.length : Int)) = true := decide_eq_true c24
                        clear c24
                        by_cases c25 : 0 ≤ x20_3
                        · rw [if_pos c25] at H
                          have c25b0 : decide (0 ≤ x20_3) = true := decide_eq_true c25
                          clear c25
                          replace H := Option.bind_eq_some_iff.mp H
                          obtain ⟨t175, A260, H⟩ := H
                          replace H : (if t175 = 0 then (spec_Precedence.l0 kj19 a3 t157 t158 t165 t166 (wrap64 (x20_3 + 1))) else (some (t175, true))) = some (r1, r2) := H
                          have A26 := Aside0.mk A260
                          clear A260
                          by_cases c27 : t175 = 0
                          · rw [if_pos c27] at H
                            have c27b0 : (t175 == 0) = true := beq_iff_eq.mpr c27
                            have c27b1 : (t175 != 0) = false := bne_eq_false_iff_eq.mpr c27
                            clear c27
                            have H' := Aside0.mk H
                            clear H
                            obtain ⟨Ao28, co28, eo28⟩ := Kd.R_slice HO_16.out
                            subst eo28
                            have p174 : 0 ≤ (x20_3 : Int) := of_decide_eq_true (by first | (with_reducible assumption) | assumption)
                            have q174 : x20_3 < (t165.length : Int) := of_decide_eq_true (by first | (with_reducible assumption) | assumption)
                            obtain ⟨ad174, e174, hx174_0⟩ := Kd.at_string (Kd.R_reads' HO_16.out).2.2 x20_3 p174 q174
                            cases e174
                            replace p174 := eq_true p174
                            replace q174 := eq_true q174
                            go_wp2_with (first | (go_at_call 28; (with_reducible refine (spec_orderNumbers.calls kj19 x21_19 (rdOf ByteArray.empty t165 x20_3) t175 _ A26.out).mono ?_); rintro e w' ⟨rfl, ⟨nd, rfl⟩⟩; (try first | exact ⟨rfl, _, World.drewN_drewN _ _ _⟩ | exact ⟨rfl, _, Eq.trans (World.drewN_drewN _ _ _) (congrArg (World.drewN _) (Nat.add_assoc _ _ _))⟩)))
                            repeat (go_quiet (first | (go_at_call 28; (with_reducible refine (spec_orderNumbers.calls kj19 x21_19 (rdOf ByteArray.empty t165 x20_3) t175 _ A26.out).mono ?_); rintro e w' ⟨rfl, ⟨nd, rfl⟩⟩; (try first | exact ⟨rfl, _, World.drewN_drewN _ _ _⟩ | exact ⟨rfl, _, Eq.trans (World.drewN_drewN _ _ _) (congrArg (World.drewN _) (Nat.add_assoc _ _ _))⟩))); try go_wp2_with (first | (go_at_call 28; (with_reducible refine (spec_orderNumbers.calls kj19 x21_19 (rdOf ByteArray.empty t165 x20_3) t175 _ A26.out).mono ?_); rintro e w' ⟨rfl, ⟨nd, rfl⟩⟩; (try first | exact ⟨rfl, _, World.drewN_drewN _ _ _⟩ | exact ⟨rfl, _, Eq.trans (World.drewN_drewN _ _ _) (congrArg (World.drewN _) (Nat.add_assoc _ _ _))⟩))))
                            go_roundg kj19
                            case measure => have := HJ5.out; have := HJ13.out; have := HK3.out; have := HJ19.out; omega
                            case rel => exact ⟨(wrap64 (x20_3 + 1)), (by first | rfl | (simp; done) | (simp [*]; done) | (simp [bne_nil_]; done)), H', ⟨by have := HJ5.out; have := HJ13.out; have := HK3.out; have := HJ19.out; omega⟩, ⟨by (with_reducible repeat (first | apply Kd.R_alloc | apply Kd.R_drewN | apply Kd.R_drew)); exact HO_12.out⟩, ⟨by (with_reducible repeat (first | apply Kd.R_alloc | apply Kd.R_drewN | apply Kd.R_drew)); exact HO_13.out⟩, ⟨by (with_reducible repeat (first | apply Kd.R_alloc | apply Kd.R_drewN | apply Kd.R_drew)); exact HO_16.out⟩, ⟨by (with_reducible repeat (first | apply Kd.R_alloc | apply Kd.R_drewN | apply Kd.R_drew)); exact HO_17.out⟩, ⟨by repeat (first | (with_reducible first | exact HB.out | apply below_alloc | apply pw_below_drewN | apply below_drew1) | exact HB.out)⟩⟩
                          · rw [if_neg c27] at H
                            have c27b0 : (t175 == 0) = false := beq_eq_false_iff_ne.mpr c27
                            have c27b1 : (t175 != 0) = true := bne_iff_ne.mpr c27
                            simp only [Option.some.injEq, Prod.mk.injEq] at H
                            obtain ⟨rfl, rfl⟩ := H
                            obtain ⟨Ao29, co29, eo29⟩ := Kd.R_slice HO_16.out
                            subst eo29
                            have p174 : 0 ≤ (x20_3 : Int) := of_decide_eq_true (by first | (with_reducible assumption) | assumption)
                            have q174 : x20_3 < (t165.length : Int) := of_decide_eq_true (by first | (with_reducible assumption) | assumption)
                            obtain ⟨ad174, e174, hx174_0⟩ := Kd.at_string (Kd.R_reads' HO_16.out).2.2 x20_3 p174 q174
                            cases e174
                            replace p174 := eq_true p174
                            replace q174 := eq_true q174
                            go_wp2_with (first | (go_at_call 28; (with_reducible refine (spec_orderNumbers.calls kj19 x21_19 (rdOf ByteArray.empty t165 x20_3) t175 _ A26.out).mono ?_); rintro e w' ⟨rfl, ⟨nd, rfl⟩⟩; (try first | exact ⟨rfl, _, World.drewN_drewN _ _ _⟩ | exact ⟨rfl, _, Eq.trans (World.drewN_drewN _ _ _) (congrArg (World.drewN _) (Nat.add_assoc _ _ _))⟩)))
                            repeat (go_quiet (first | (go_at_call 28; (with_reducible refine (spec_orderNumbers.calls kj19 x21_19 (rdOf ByteArray.empty t165 x20_3) t175 _ A26.out).mono ?_); rintro e w' ⟨rfl, ⟨nd, rfl⟩⟩; (try first | exact ⟨rfl, _, World.drewN_drewN _ _ _⟩ | exact ⟨rfl, _, Eq.trans (World.drewN_drewN _ _ _) (congrArg (World.drewN _) (Nat.add_assoc _ _ _))⟩))); try go_wp2_with (first | (go_at_call 28; (with_reducible refine (spec_orderNumbers.calls kj19 x21_19 (rdOf ByteArray.empty t165 x20_3) t175 _ A26.out).mono ?_); rintro e w' ⟨rfl, ⟨nd, rfl⟩⟩; (try first | exact ⟨rfl, _, World.drewN_drewN _ _ _⟩ | exact ⟨rfl, _, Eq.trans (World.drewN_drewN _ _ _) (congrArg (World.drewN _) (Nat.add_assoc _ _ _))⟩))))
                            go_ret2
                            exact ⟨by first | rfl | (simp [errW_none, errW_some] <;> rfl) | (simp [*, errW_none, errW_some] <;> rfl) | (simp [bne_nil_]; done), by repeat (first | (with_reducible first | exact HB.out | apply below_alloc | apply pw_below_drewN | apply below_drew1) | exact HB.out)⟩
                        · rw [if_neg c25] at H
                          exact absurd H (by simp)
                      · rw [if_neg c24] at H
                        have c24b0 : decide (x20_3 < (t165.length : Int)) = false := decide_eq_false c24
                        clear c24
                        replace H := Option.bind_eq_some_iff.mp H
                        obtain ⟨t176, A300, H⟩ := H
                        replace H : (if t176 = 0 then (spec_Precedence.l0 kj19 a3 t157 t158 t165 t166 (wrap64 (x20_3 + 1))) else (some (t176, true))) = some (r1, r2) := H
                        have A30 := Aside0.mk A300
                        clear A300
                        by_cases c31 : t176 = 0
                        · rw [if_pos c31] at H
                          have c31b0 : (t176 == 0) = true := beq_iff_eq.mpr c31
                          have c31b1 : (t176 != 0) = false := bne_eq_false_iff_eq.mpr c31
                          clear c31
                          have H' := Aside0.mk H
                          clear H
                          obtain ⟨Ao32, co32, eo32⟩ := Kd.R_slice HO_16.out
                          subst eo32
                          go_wp2_with (first | (go_at_call 28; (with_reducible refine (spec_orderNumbers.calls kj19 x21_19 (⟨#[48]⟩ : ByteArray) t176 _ A30.out).mono ?_); rintro e w' ⟨rfl, ⟨nd, rfl⟩⟩; (try first | exact ⟨rfl, _, World.drewN_drewN _ _ _⟩ | exact ⟨rfl, _, Eq.trans (World.drewN_drewN _ _ _) (congrArg (World.drewN _) (Nat.add_assoc _ _ _))⟩)))
                          repeat (go_quiet (first | (go_at_call 28; (with_reducible refine (spec_orderNumbers.calls kj19 x21_19 (⟨#[48]⟩ : ByteArray) t176 _ A30.out).mono ?_); rintro e w' ⟨rfl, ⟨nd, rfl⟩⟩; (try first | exact ⟨rfl, _, World.drewN_drewN _ _ _⟩ | exact ⟨rfl, _, Eq.trans (World.drewN_drewN _ _ _) (congrArg (World.drewN _) (Nat.add_assoc _ _ _))⟩))); try go_wp2_with (first | (go_at_call 28; (with_reducible refine (spec_orderNumbers.calls kj19 x21_19 (⟨#[48]⟩ : ByteArray) t176 _ A30.out).mono ?_); rintro e w' ⟨rfl, ⟨nd, rfl⟩⟩; (try first | exact ⟨rfl, _, World.drewN_drewN _ _ _⟩ | exact ⟨rfl, _, Eq.trans (World.drewN_drewN _ _ _) (congrArg (World.drewN _) (Nat.add_assoc _ _ _))⟩))))
                          go_roundg kj19
                          case measure => have := HJ5.out; have := HJ13.out; have := HK3.out; have := HJ19.out; omega
                          case rel => exact ⟨(wrap64 (x20_3 + 1)), (by first | rfl | (simp; done) | (simp [*]; done) | (simp [bne_nil_]; done)), H', ⟨by have := HJ5.out; have := HJ13.out; have := HK3.out; have := HJ19.out; omega⟩, ⟨by (with_reducible repeat (first | apply Kd.R_alloc | apply Kd.R_drewN | apply Kd.R_drew)); exact HO_12.out⟩, ⟨by (with_reducible repeat (first | apply Kd.R_alloc | apply Kd.R_drewN | apply Kd.R_drew)); exact HO_13.out⟩, ⟨by (with_reducible repeat (first | apply Kd.R_alloc | apply Kd.R_drewN | apply Kd.R_drew)); exact HO_16.out⟩, ⟨by (with_reducible repeat (first | apply Kd.R_alloc | apply Kd.R_drewN | apply Kd.R_drew)); exact HO_17.out⟩, ⟨by repeat (first | (with_reducible first | exact HB.out | apply below_alloc | apply pw_below_drewN | apply below_drew1) | exact HB.out)⟩⟩
                        · rw [if_neg c31] at H
                          have c31b0 : (t176 == 0) = false := beq_eq_false_iff_ne.mpr c31
                          have c31b1 : (t176 != 0) = true := bne_iff_ne.mpr c31
                          simp only [Option.some.injEq, Prod.mk.injEq] at H
                          obtain ⟨rfl, rfl⟩ := H
                          obtain ⟨Ao33, co33, eo33⟩ := Kd.R_slice HO_16.out
                          subst eo33
                          go_wp2_with (first | (go_at_call 28; (with_reducible refine (spec_orderNumbers.calls kj19 x21_19 (⟨#[48]⟩ : ByteArray) t176 _ A30.out).mono ?_); rintro e w' ⟨rfl, ⟨nd, rfl⟩⟩; (try first | exact ⟨rfl, _, World.drewN_drewN _ _ _⟩ | exact ⟨rfl, _, Eq.trans (World.drewN_drewN _ _ _) (congrArg (World.drewN _) (Nat.add_assoc _ _ _))⟩)))
                          repeat (go_quiet (first | (go_at_call 28; (with_reducible refine (spec_orderNumbers.calls kj19 x21_19 (⟨#[48]⟩ : ByteArray) t176 _ A30.out).mono ?_); rintro e w' ⟨rfl, ⟨nd, rfl⟩⟩; (try first | exact ⟨rfl, _, World.drewN_drewN _ _ _⟩ | exact ⟨rfl, _, Eq.trans (World.drewN_drewN _ _ _) (congrArg (World.drewN _) (Nat.add_assoc _ _ _))⟩))); try go_wp2_with (first | (go_at_call 28; (with_reducible refine (spec_orderNumbers.calls kj19 x21_19 (⟨#[48]⟩ : ByteArray) t176 _ A30.out).mono ?_); rintro e w' ⟨rfl, ⟨nd, rfl⟩⟩; (try first | exact ⟨rfl, _, World.drewN_drewN _ _ _⟩ | exact ⟨rfl, _, Eq.trans (World.drewN_drewN _ _ _) (congrArg (World.drewN _) (Nat.add_assoc _ _ _))⟩))))
                          go_ret2
                          exact ⟨by first | rfl | (simp [errW_none, errW_some] <;> rfl) | (simp [*, errW_none, errW_some] <;> rfl) | (simp [bne_nil_]; done), by repeat (first | (with_reducible first | exact HB.out | apply below_alloc | apply pw_below_drewN | apply below_drew1) | exact HB.out)⟩
                · rw [if_neg c19] at H
                  have c19b0 : decide (x20_3 < a3) = false := decide_eq_false c19
                  clear c19
                  have HC34 := Aside0.mk H
                  clear H
                  go_upto_region 18 with (fail)
                  repeat (go_quiet (fail); go_upto_region 18 with (fail))
                  go_cut [89] (fun v89 wc => ∃ (kq : Nat) (x89_33 : Bool), v89 = .bool x89_33 ∧ Aside0 (spec_Precedence.j4 kq t158 t166 x89_33 = some (r1, r2)) ∧ Aside0 (kq ≤ k3) ∧ Aside0 (Kd.R Kd.string 9 wc w.heap.size (fun k_ => some k_ ≠ (v171 : Value).ownBlock) v163 t158) ∧ Aside0 (Kd.R Kd.string 9 wc w.heap.size (fun k_ => some k_ ≠ (v163 : Value).ownBlock) v171 t166) ∧ Aside0 (Below w.heap.size w wc))
                  case first =>
                    have H := HC34.out
                    clear HC34
                    by_cases c35 : (t158.length : Int) = 0
                    · rw [if_pos c35] at H
                      have c35b0 : ((t158.length : Int) == 0) = true := beq_iff_eq.mpr c35
                      have c35b1 : ((t158.length : Int) != 0) = false := bne_eq_false_iff_eq.mpr c35
                      clear c35
                      (first | rw [c35b0] | (simp only [i64_w, i32_w]; rw [c35b0]) | skip)
                      have H' := Aside0.mk H
                      clear H
                      obtain ⟨Ao36, co36, eo36⟩ := Kd.R_slice HO_13.out
                      subst eo36
                      go_wp2
                      repeat (go_quiet (fail); try go_wp2)
                      go_meet
                      case rel => exact ⟨_, (true), (by first | rfl | (simp; done) | (simp [*]; done) | (simp [bne_nil_]; done)), H', ⟨by have := HJ5.out; have := HJ13.out; have := HK3.out; first | omega | exact Nat.le_refl _⟩, ⟨by (with_reducible repeat (first | apply Kd.R_alloc | apply Kd.R_drewN | apply Kd.R_drew)); exact Kd.R_mono HO_13.out (fun _ hk => hk.2.2)⟩, ⟨by (with_reducible repeat (first | apply Kd.R_alloc | apply Kd.R_drewN | apply Kd.R_drew)); exact Kd.R_mono HO_17.out (fun _ hk => hk.2.1)⟩, ⟨by repeat (first | (with_reducible first | exact HB.out | apply below_alloc | apply pw_below_drewN | apply below_drew1) | exact HB.out)⟩⟩
                    · rw [if_neg c35] at H
                      have c35b0 : ((t158.length : Int) == 0) = false := beq_eq_false_iff_ne.mpr c35
                      have c35b1 : ((t158.length : Int) != 0) = true := bne_iff_ne.mpr c35
                      have c35b2 : ¬ (t158 = []) := fun h_ => c35 (by rw [h_]; rfl)
                      (first | rw [c35b0] | (simp only [i64_w, i32_w]; rw [c35b0]) | skip)
                      have H' := Aside0.mk H
                      clear H
                      obtain ⟨Ao37, co37, eo37⟩ := Kd.R_slice HO_13.out
                      subst eo37
                      obtain ⟨Ao38, co38, eo38⟩ := Kd.R_slice HO_17.out
                      subst eo38
                      go_wp2
                      repeat (go_quiet (fail); try go_wp2)
                      go_meet
                      case rel => exact ⟨_, (((t166.length : Int) == 0)), (by first | rfl | (simp; done) | (simp [*]; done) | (simp [bne_nil_]; done)), H', ⟨by have := HJ5.out; have := HJ13.out; have := HK3.out; first | omega | exact Nat.le_refl _⟩, ⟨by (with_reducible repeat (first | apply Kd.R_alloc | apply Kd.R_drewN | apply Kd.R_drew)); exact Kd.R_mono HO_13.out (fun _ hk => hk.2.2)⟩, ⟨by (with_reducible repeat (first | apply Kd.R_alloc | apply Kd.R_drewN | apply Kd.R_drew)); exact Kd.R_mono HO_17.out (fun _ hk => hk.2.1)⟩, ⟨by repeat (first | (with_reducible first | exact HB.out | apply below_alloc | apply pw_below_drewN | apply below_drew1) | exact HB.out)⟩⟩
                  case rest =>
                    clear HC34
                    try clear c1
                    try clear p1
                    try clear q1
                    try clear hx1
                    try clear c2
                    try clear p2
                    try clear c3
                    try clear p6
                    try clear c7
                    try clear c13
                    try clear c17
                    try clear p17
                    try clear q17
                    try clear hx17
                    try clear c18
                    try clear c19
                    try clear c19b0
                    try clear c22
                    try clear c22b0
                    try clear c23
                    try clear c23b0
                    try clear c24
                    try clear c24b0
                    try clear c25
                    try clear c25b0
                    try clear c27
                    try clear c27b0
                    try clear c27b1
                    try clear c31
                    try clear c31b0
                    try clear c31b1
                    try clear c35
                    try clear c35b0
                    try clear c35b1
                    try clear c35b2
                    try clear hx173_0
                    try clear hx174_0
                    try clear p1
                    try clear p17
                    try clear p173
                    try clear p174
                    try clear p2
                    try clear q1
                    try clear q17
                    try clear q173
                    try clear q174
                    obtain ⟨kq, x89_33, rfl, HA, HJ33, HO_13, HO_17, HB⟩ := hcut
                    cases kq with
                    | zero => exact absurd HA.out (by simp [spec_Precedence.j4])
                    | succ kj33 =>
                      have H := HA.out
                      clear HA
                      simp only [spec_Precedence.j4] at H
                      by_cases c39 : x89_33 = true
                      · subst c39
                        have H1 : ((spec_orderInts.f (mn (t166.length : Int) 1) (mn (t158.length : Int) 1)).bind fun t177 => (some (t177, true))) = some (r1, r2) := by rw [if_pos rfl] at H; exact H
                        clear H
                        have H := H1
                        clear H1
                        obtain ⟨ji40, hji40⟩ : ∃ j_ : Int, (mn (t166.length : Int) 1) = j_ := ⟨_, rfl⟩
                        replace H : ((spec_orderInts.f (ji40) (mn (t158.length : Int) 1)).bind fun t177 => (some (t177, true))) = some (r1, r2) := by first | (rw [hji40] at H; exact H) | (simp only [hji40] at H ⊢; exact H)
                        have hji40_ : (if 1 < (t166.length : Int) then 1 else (t166.length : Int)) = ji40 := hji40
                        obtain ⟨ji41, hji41⟩ : ∃ j_ : Int, (mn (t158.length : Int) 1) = j_ := ⟨_, rfl⟩
                        replace H : ((spec_orderInts.f (ji40) (ji41)).bind fun t177 => (some (t177, true))) = some (r1, r2) := by first | (rw [hji41] at H; exact H) | (simp only [hji41] at H ⊢; exact H)
                        have hji41_ : (if 1 < (t158.length : Int) then 1 else (t158.length : Int)) = ji41 := hji41
                        replace H := Option.bind_eq_some_iff.mp H
                        obtain ⟨t177, A420, H⟩ := H
                        replace H : (some (t177, true)) = some (r1, r2) := H
                        have A42 := Aside0.mk A420
                        clear A420
                        simp only [Option.some.injEq, Prod.mk.injEq] at H
                        obtain ⟨rfl, rfl⟩ := H
                        obtain ⟨Ao43, co43, eo43⟩ := Kd.R_slice HO_17.out
                        subst eo43
                        obtain ⟨Ao44, co44, eo44⟩ := Kd.R_slice HO_13.out
                        subst eo44
                        go_wp2_with (first | (go_at_call 29; (with_reducible refine (spec_orderInts.calls ji40 ji41 t177 _ A42.out).mono ?_); rintro e w' ⟨rfl, ⟨nd, rfl⟩⟩; (try first | exact ⟨rfl, _, World.drewN_drewN _ _ _⟩ | exact ⟨rfl, _, Eq.trans (World.drewN_drewN _ _ _) (congrArg (World.drewN _) (Nat.add_assoc _ _ _))⟩)))
                        repeat (go_quiet (first | (go_at_call 29; (with_reducible refine (spec_orderInts.calls ji40 ji41 t177 _ A42.out).mono ?_); rintro e w' ⟨rfl, ⟨nd, rfl⟩⟩; (try first | exact ⟨rfl, _, World.drewN_drewN _ _ _⟩ | exact ⟨rfl, _, Eq.trans (World.drewN_drewN _ _ _) (congrArg (World.drewN _) (Nat.add_assoc _ _ _))⟩))); try go_wp2_with (first | (go_at_call 29; (with_reducible refine (spec_orderInts.calls ji40 ji41 t177 _ A42.out).mono ?_); rintro e w' ⟨rfl, ⟨nd, rfl⟩⟩; (try first | exact ⟨rfl, _, World.drewN_drewN _ _ _⟩ | exact ⟨rfl, _, Eq.trans (World.drewN_drewN _ _ _) (congrArg (World.drewN _) (Nat.add_assoc _ _ _))⟩))))
                        go_ret2
                        exact ⟨by first | rfl | (simp [errW_none, errW_some] <;> rfl) | (simp only [← hji40, ← hji41]; first | rfl | (simp [errW_none, errW_some] <;> rfl)) | (simp [*, errW_none, errW_some] <;> rfl) | (simp [bne_nil_]; done), by repeat (first | (with_reducible first | exact HB.out | apply below_alloc | apply pw_below_drewN | apply below_drew1) | exact HB.out)⟩
                      · replace c39 := Bool.eq_false_iff.mpr c39
                        subst c39
                        have H1 : (spec_Precedence.l1 kj33 t158 t166 0) = some (r1, r2) := by rw [if_neg (show ¬ (false = true) by decide)] at H; exact H
                        clear H
                        have H := H1
                        clear H1
                        have H' := Aside0.mk H
                        clear H
                        go_wp2
                        repeat (go_quiet (fail); try go_wp2)
                        go_loopg [24] kj33 (fun kq v24 w' => ∃ (x24_5 : Int), v24 = .int .i64 x24_5 ∧ Aside0 (spec_Precedence.l1 kq t158 t166 x24_5 = some (r1, r2)) ∧ Aside0 (kq ≤ kj33) ∧ Aside0 (Kd.R Kd.string 9 w' w.heap.size (fun k_ => some k_ ≠ (v171 : Value).ownBlock) v163 t158) ∧ Aside0 (Kd.R Kd.string 9 w' w.heap.size (fun k_ => some k_ ≠ (v163 : Value).ownBlock) v171 t166) ∧ Aside0 (Below w.heap.size w w'))
                        case atStart => exact ⟨(0), (by first | rfl | (simp; done) | (simp [*]; done) | (simp [bne_nil_]; done)), H', ⟨Nat.le_refl _⟩, ⟨by (with_reducible repeat (first | apply Kd.R_alloc | apply Kd.R_drewN | apply Kd.R_drew)); exact HO_13.out⟩, ⟨by (with_reducible repeat (first | apply Kd.R_alloc | apply Kd.R_drewN | apply Kd.R_drew)); exact HO_17.out⟩, ⟨by repeat (first | (with_reducible first | exact HB.out | apply below_alloc | apply pw_below_drewN | apply below_drew1) | exact HB.out)⟩⟩
                        case round =>
                          clear H'
                          try clear c1
                          try clear p1
                          try clear q1
                          try clear hx1
                          try clear c2
                          try clear p2
                          try clear c3
                          try clear p6
                          try clear c7
                          try clear c13
                          try clear c17
                          try clear p17
                          try clear q17
                          try clear hx17
                          try clear c18
                          try clear c19
                          try clear c19b0
                          try clear c22
                          try clear c22b0
                          try clear c23
                          try clear c23b0
                          try clear c24
                          try clear c24b0
                          try clear c25
                          try clear c25b0
                          try clear c27
                          try clear c27b0
                          try clear c27b1
                          try clear c31
                          try clear c31b0
                          try clear c31b1
                          try clear c35
                          try clear c35b0
                          try clear c35b1
                          try clear c35b2
                          try clear c39
                          try clear hx173_0
                          try clear hx174_0
                          try clear p1
                          try clear p17
                          try clear p173
                          try clear p174
                          try clear p2
                          try clear p6
                          try clear q1
                          try clear q17
                          try clear q173
                          try clear q174
                          obtain ⟨x24_5, rfl, HA, HK5, HO_13, HO_17, HB⟩ := hrel
                          cases gk with
                          | zero => exact absurd HA.out (by simp [spec_Precedence.l1])
                          | succ k5 =>
                            have H := HA.out
                            clear HA
                            simp only [spec_Precedence.l1] at H
                            have HC45 := Aside0.mk H
                            clear H
                            go_upto_region 21 with (fail)
                            repeat (go_quiet (fail); go_upto_region 21 with (fail))
                            go_cut [106] (fun v106 wc => ∃ (kq : Nat) (x106_44 : Bool), v106 = .bool x106_44 ∧ Aside0 (spec_Precedence.j6 kq t158 t166 x24_5 x106_44 = some (r1, r2)) ∧ Aside0 (kq ≤ k5) ∧ Aside0 (Kd.R Kd.string 9 wc w.heap.size (fun k_ => some k_ ≠ (v171 : Value).ownBlock) v163 t158) ∧ Aside0 (Kd.R Kd.string 9 wc w.heap.size (fun k_ => some k_ ≠ (v163 : Value).ownBlock) v171 t166) ∧ Aside0 (Below w.heap.size w wc))
                            case first =>
                              have H := HC45.out
                              clear HC45
                              by_cases c46 : x24_5 < (t158.length : Int)
                              · rw [if_pos c46] at H
                                have c46b0 : decide (x24_5 < (t158.length : Int)) = true := decide_eq_true c46
                                clear c46
                                (first | rw [c46b0] | (simp only [i64_w, i32_w]; rw [c46b0]) | skip)
                                have H' := Aside0.mk H
                                clear H
                                obtain ⟨Ao47, co47, eo47⟩ := Kd.R_slice HO_13.out
                                subst eo47
                                obtain ⟨Ao48, co48, eo48⟩ := Kd.R_slice HO_17.out
                                subst eo48
                                go_wp2
                                repeat (go_quiet (fail); try go_wp2)
                                go_meet
                                case rel => exact ⟨_, (decide (x24_5 < (t166.length : Int))), (by first | rfl | (simp; done) | (simp [*]; done) | (simp [bne_nil_]; done)), H', ⟨by have := HJ5.out; have := HJ13.out; have := HK3.out; have := HJ33.out; have := HK5.out; first | omega | exact Nat.le_refl _⟩, ⟨by (with_reducible repeat (first | apply Kd.R_alloc | apply Kd.R_drewN | apply Kd.R_drew)); exact HO_13.out⟩, ⟨by (with_reducible repeat (first | apply Kd.R_alloc | apply Kd.R_drewN | apply Kd.R_drew)); exact HO_17.out⟩, ⟨by repeat (first | (with_reducible first | exact HB.out | apply below_alloc | apply pw_below_drewN | apply below_drew1) | exact HB.out)⟩⟩
                              · rw [if_neg c46] at H
                                have c46b0 : decide (x24_5 < (t158.length : Int)) = false := decide_eq_false c46
                                clear c46
                                (first | rw [c46b0] | (simp only [i64_w, i32_w]; rw [c46b0]) | skip)
                                have H' := Aside0.mk H
                                clear H
                                obtain ⟨Ao49, co49, eo49⟩ := Kd.R_slice HO_13.out
                                subst eo49
                                go_wp2
                                repeat (go_quiet (fail); try go_wp2)
                                go_meet
                                case rel => exact ⟨_, (false), (by first | rfl | (simp; done) | (simp [*]; done) | (simp [bne_nil_]; done)), H', ⟨by have := HJ5.out; have := HJ13.out; have := HK3.out; have := HJ33.out; have := HK5.out; first | omega | exact Nat.le_refl _⟩, ⟨by (with_reducible repeat (first | apply Kd.R_alloc | apply Kd.R_drewN | apply Kd.R_drew)); exact HO_13.out⟩, ⟨by (with_reducible repeat (first | apply Kd.R_alloc | apply Kd.R_drewN | apply Kd.R_drew)); exact HO_17.out⟩, ⟨by repeat (first | (with_reducible first | exact HB.out | apply below_alloc | apply pw_below_drewN | apply below_drew1) | exact HB.out)⟩⟩
                            case rest =>
                              clear HC45
                              try clear c1
                              try clear p1
                              try clear q1
                              try clear hx1
                              try clear c2
                              try clear p2
                              try clear c3
                              try clear c4
                              try clear p6
                              try clear c7
                              try clear c13
                              try clear c17
                              try clear p17
                              try clear q17
                              try clear hx17
                              try clear c18
                              try clear c19
                              try clear c19b0
                              try clear c22
                              try clear c22b0
                              try clear c23
                              try clear c23b0
                              try clear c24
                              try clear c24b0
                              try clear c25
                              try clear c25b0
                              try clear c27
                              try clear c27b0
                              try clear c27b1
                              try clear c31
                              try clear c31b0
                              try clear c31b1
                              try clear c35
                              try clear c35b0
                              try clear c35b1
                              try clear c35b2
                              try clear c39
                              try clear c46
                              try clear c46b0
                              try clear hx173_0
                              try clear hx174_0
                              try clear p1
                              try clear p17
                              try clear p173
                              try clear p174
                              try clear p2
                              try clear p6
                              try clear q1
                              try clear q17
                              try clear q173
                              try clear q174
                              obtain ⟨kq, x106_44, rfl, HA, HJ44, HO_13, HO_17, HB⟩ := hcut
                              cases kq with
                              | zero => exact absurd HA.out (by simp [spec_Precedence.j6])
                              | succ kj44 =>
                                have H := HA.out
                                clear HA
                                simp only [spec_Precedence.j6] at H
                                by_cases c50 : x106_44 = true
                                · subst c50
                                  have H1 : (if 0 ≤ x24_5 then (if x24_5 < (t158.length : Int) then (if x24_5 < (t166.length : Int) then ((spec_pageOne.f kj44 (rdOf ByteArray.empty t158 x24_5) (rdOf ByteArray.empty t166 x24_5)).bind fun t180 => (if t180 = 0 then (spec_Precedence.l1 kj44 t158 t166 (wrap64 (x24_5 + 1))) else (some (t180, true)))) else (none)) else (none)) else (none)) = some (r1, r2) := by rw [if_pos rfl] at H; exact H
                                  clear H
                                  have H := H1
                                  clear H1
                                  by_cases c51 : 0 ≤ x24_5
                                  · rw [if_pos c51] at H
                                    have c51b0 : decide (0 ≤ x24_5) = true := decide_eq_true c51
                                    clear c51
                                    by_cases c52 : x24_5 < (t158.length : Int)
                                    · rw [if_pos c52] at H
                                      have c52b0 : decide (x24_5 < (t158.length : Int)) = true := decide_eq_true c52
                                      clear c52
                                      by_cases c53 : x24_5 < (t166.length : Int)
                                      · rw [if_pos c53] at H
                                        have c53b0 : decide (x24_5 < (t166.length : Int)) = true := decide_eq_true c53
                                        clear c53
                                        replace H := Option.bind_eq_some_iff.mp H
                                        obtain ⟨t180, A540, H⟩ := H
                                        replace H : (if t180 = 0 then (spec_Precedence.l1 kj44 t158 t166 (wrap64 (x24_5 + 1))) else (some (t180, true))) = some (r1, r2) := H
                                        have A54 := Aside0.mk A540
                                        clear A540
                                        by_cases c55 : t180 = 0
                                        · rw [if_pos c55] at H
                                          have c55b0 : (t180 == 0) = true := beq_iff_eq.mpr c55
                                          have c55b1 : (t180 != 0) = false := bne_eq_false_iff_eq.mpr c55
                                          clear c55
                                          have H' := Aside0.mk H
                                          clear H
                                          obtain ⟨Ao56, co56, eo56⟩ := Kd.R_slice HO_13.out
                                          subst eo56
                                          have p178 : 0 ≤ (x24_5 : Int) := of_decide_eq_true (by first | (with_reducible assumption) | assumption)
                                          have q178 : x24_5 < (t158.length : Int) := of_decide_eq_true (by first | (with_reducible assumption) | assumption)
                                          obtain ⟨ad178, e178, hx178_0⟩ := Kd.at_string (Kd.R_reads' HO_13.out).2.2 x24_5 p178 q178
                                          cases e178
                                          replace p178 := eq_true p178
                                          replace q178 := eq_true q178
                                          obtain ⟨Ao57, co57, eo57⟩ := Kd.R_slice HO_17.out
                                          subst eo57
                                          have p179 : 0 ≤ (x24_5 : Int) := of_decide_eq_true (by first | (with_reducible assumption) | assumption)
                                          have q179 : x24_5 < (t166.length : Int) := of_decide_eq_true (by first | (with_reducible assumption) | assumption)
                                          obtain ⟨ad179, e179, hx179_0⟩ := Kd.at_string (Kd.R_reads' HO_17.out).2.2 x24_5 p179 q179
                                          cases e179
                                          replace p179 := eq_true p179
                                          replace q179 := eq_true q179
                                          go_wp2_with (first | (go_at_call 30; (with_reducible refine (spec_pageOne.calls kj44 (rdOf ByteArray.empty t158 x24_5) (rdOf ByteArray.empty t166 x24_5) t180 _ A54.out).mono ?_); rintro e w' ⟨rfl, ⟨nd, rfl⟩⟩; (try first | exact ⟨rfl, _, World.drewN_drewN _ _ _⟩ | exact ⟨rfl, _, Eq.trans (World.drewN_drewN _ _ _) (congrArg (World.drewN _) (Nat.add_assoc _ _ _))⟩)))
                                          repeat (go_quiet (first | (go_at_call 30; (with_reducible refine (spec_pageOne.calls kj44 (rdOf ByteArray.empty t158 x24_5) (rdOf ByteArray.empty t166 x24_5) t180 _ A54.out).mono ?_); rintro e w' ⟨rfl, ⟨nd, rfl⟩⟩; (try first | exact ⟨rfl, _, World.drewN_drewN _ _ _⟩ | exact ⟨rfl, _, Eq.trans (World.drewN_drewN _ _ _) (congrArg (World.drewN _) (Nat.add_assoc _ _ _))⟩))); try go_wp2_with (first | (go_at_call 30; (with_reducible refine (spec_pageOne.calls kj44 (rdOf ByteArray.empty t158 x24_5) (rdOf ByteArray.empty t166 x24_5) t180 _ A54.out).mono ?_); rintro e w' ⟨rfl, ⟨nd, rfl⟩⟩; (try first | exact ⟨rfl, _, World.drewN_drewN _ _ _⟩ | exact ⟨rfl, _, Eq.trans (World.drewN_drewN _ _ _) (congrArg (World.drewN _) (Nat.add_assoc _ _ _))⟩))))
                                          go_roundg kj44
                                          case measure => have := HJ5.out; have := HJ13.out; have := HK3.out; have := HJ33.out; have := HK5.out; have := HJ44.out; omega
                                          case rel => exact ⟨(wrap64 (x24_5 + 1)), (by first | rfl | (simp; done) | (simp [*]; done) | (simp [bne_nil_]; done)), H', ⟨by have := HJ5.out; have := HJ13.out; have := HK3.out; have := HJ33.out; have := HK5.out; have := HJ44.out; omega⟩, ⟨by (with_reducible repeat (first | apply Kd.R_alloc | apply Kd.R_drewN | apply Kd.R_drew)); exact HO_13.out⟩, ⟨by (with_reducible repeat (first | apply Kd.R_alloc | apply Kd.R_drewN | apply Kd.R_drew)); exact HO_17.out⟩, ⟨by repeat (first | (with_reducible first | exact HB.out | apply below_alloc | apply pw_below_drewN | apply below_drew1) | exact HB.out)⟩⟩
                                        · rw [if_neg c55] at H
                                          have c55b0 : (t180 == 0) = false := beq_eq_false_iff_ne.mpr c55
                                          have c55b1 : (t180 != 0) = true := bne_iff_ne.mpr c55
                                          simp only [Option.some.injEq, Prod.mk.injEq] at H
                                          obtain ⟨rfl, rfl⟩ := H
                                          obtain ⟨Ao58, co58, eo58⟩ := Kd.R_slice HO_13.out
                                          subst eo58
                                          have p178 : 0 ≤ (x24_5 : Int) := of_decide_eq_true (by first | (with_reducible assumption) | assumption)
                                          have q178 : x24_5 < (t158.length : Int) := of_decide_eq_true (by first | (with_reducible assumption) | assumption)
                                          obtain ⟨ad178, e178, hx178_0⟩ := Kd.at_string (Kd.R_reads' HO_13.out).2.2 x24_5 p178 q178
                                          cases e178
                                          replace p178 := eq_true p178
                                          replace q178 := eq_true q178
                                          obtain ⟨Ao59, co59, eo59⟩ := Kd.R_slice HO_17.out
                                          subst eo59
                                          have p179 : 0 ≤ (x24_5 : Int) := of_decide_eq_true (by first | (with_reducible assumption) | assumption)
                                          have q179 : x24_5 < (t166.length : Int) := of_decide_eq_true (by first | (with_reducible assumption) | assumption)
                                          obtain ⟨ad179, e179, hx179_0⟩ := Kd.at_string (Kd.R_reads' HO_17.out).2.2 x24_5 p179 q179
                                          cases e179
                                          replace p179 := eq_true p179
                                          replace q179 := eq_true q179
                                          go_wp2_with (first | (go_at_call 30; (with_reducible refine (spec_pageOne.calls kj44 (rdOf ByteArray.empty t158 x24_5) (rdOf ByteArray.empty t166 x24_5) t180 _ A54.out).mono ?_); rintro e w' ⟨rfl, ⟨nd, rfl⟩⟩; (try first | exact ⟨rfl, _, World.drewN_drewN _ _ _⟩ | exact ⟨rfl, _, Eq.trans (World.drewN_drewN _ _ _) (congrArg (World.drewN _) (Nat.add_assoc _ _ _))⟩)))
                                          repeat (go_quiet (first | (go_at_call 30; (with_reducible refine (spec_pageOne.calls kj44 (rdOf ByteArray.empty t158 x24_5) (rdOf ByteArray.empty t166 x24_5) t180 _ A54.out).mono ?_); rintro e w' ⟨rfl, ⟨nd, rfl⟩⟩; (try first | exact ⟨rfl, _, World.drewN_drewN _ _ _⟩ | exact ⟨rfl, _, Eq.trans (World.drewN_drewN _ _ _) (congrArg (World.drewN _) (Nat.add_assoc _ _ _))⟩))); try go_wp2_with (first | (go_at_call 30; (with_reducible refine (spec_pageOne.calls kj44 (rdOf ByteArray.empty t158 x24_5) (rdOf ByteArray.empty t166 x24_5) t180 _ A54.out).mono ?_); rintro e w' ⟨rfl, ⟨nd, rfl⟩⟩; (try first | exact ⟨rfl, _, World.drewN_drewN _ _ _⟩ | exact ⟨rfl, _, Eq.trans (World.drewN_drewN _ _ _) (congrArg (World.drewN _) (Nat.add_assoc _ _ _))⟩))))
                                          go_ret2
                                          exact ⟨by first | rfl | (simp [errW_none, errW_some] <;> rfl) | (simp [*, errW_none, errW_some] <;> rfl) | (simp [bne_nil_]; done), by repeat (first | (with_reducible first | exact HB.out | apply below_alloc | apply pw_below_drewN | apply below_drew1) | exact HB.out)⟩
                                      · rw [if_neg c53] at H
                                        exact absurd H (by simp)
                                    · rw [if_neg c52] at H
                                      exact absurd H (by simp)
                                  · rw [if_neg c51] at H
                                    exact absurd H (by simp)
                                · replace c50 := Bool.eq_false_iff.mpr c50
                                  subst c50
                                  have H1 : ((spec_orderInts.f (t158.length : Int) (t166.length : Int)).bind fun t181 => (some (t181, true))) = some (r1, r2) := by rw [if_neg (show ¬ (false = true) by decide)] at H; exact H
                                  clear H
                                  have H := H1
                                  clear H1
                                  replace H := Option.bind_eq_some_iff.mp H
                                  obtain ⟨t181, A600, H⟩ := H
                                  replace H : (some (t181, true)) = some (r1, r2) := H
                                  have A60 := Aside0.mk A600
                                  clear A600
                                  simp only [Option.some.injEq, Prod.mk.injEq] at H
                                  obtain ⟨rfl, rfl⟩ := H
                                  obtain ⟨Ao61, co61, eo61⟩ := Kd.R_slice HO_13.out
                                  subst eo61
                                  obtain ⟨Ao62, co62, eo62⟩ := Kd.R_slice HO_17.out
                                  subst eo62
                                  go_wp2_with (first | (go_at_call 29; (with_reducible refine (spec_orderInts.calls (t158.length : Int) (t166.length : Int) t181 _ A60.out).mono ?_); rintro e w' ⟨rfl, ⟨nd, rfl⟩⟩; (try first | exact ⟨rfl, _, World.drewN_drewN _ _ _⟩ | exact ⟨rfl, _, Eq.trans (World.drewN_drewN _ _ _) (congrArg (World.drewN _) (Nat.add_assoc _ _ _))⟩)))
                                  repeat (go_quiet (first | (go_at_call 29; (with_reducible refine (spec_orderInts.calls (t158.length : Int) (t166.length : Int) t181 _ A60.out).mono ?_); rintro e w' ⟨rfl, ⟨nd, rfl⟩⟩; (try first | exact ⟨rfl, _, World.drewN_drewN _ _ _⟩ | exact ⟨rfl, _, Eq.trans (World.drewN_drewN _ _ _) (congrArg (World.drewN _) (Nat.add_assoc _ _ _))⟩))); try go_wp2_with (first | (go_at_call 29; (with_reducible refine (spec_orderInts.calls (t158.length : Int) (t166.length : Int) t181 _ A60.out).mono ?_); rintro e w' ⟨rfl, ⟨nd, rfl⟩⟩; (try first | exact ⟨rfl, _, World.drewN_drewN _ _ _⟩ | exact ⟨rfl, _, Eq.trans (World.drewN_drewN _ _ _) (congrArg (World.drewN _) (Nat.add_assoc _ _ _))⟩))))
                                  go_ret2
                                  exact ⟨by first | rfl | (simp [errW_none, errW_some] <;> rfl) | (simp [*, errW_none, errW_some] <;> rfl) | (simp [bne_nil_]; done), by repeat (first | (with_reducible first | exact HB.out | apply below_alloc | apply pw_below_drewN | apply below_drew1) | exact HB.out)⟩

-- LEFT OUT: function 146

-- LEFT OUT: function 145

-- LEFT OUT: function 128

-- LEFT OUT: function 113

-- LEFT OUT: function 106

-- LEFT OUT: function 96

-- LEFT OUT: function 81

-- LEFT OUT: function 62

-- LEFT OUT: function 43

-- LEFT OUT: function 45

-- GIVEN: function 21 (impl_SemverCompare)

-- LEFT OUT: function 108

-- LEFT OUT: function 115

-- LEFT OUT: function 109

-- LEFT OUT: function 97

-- LEFT OUT: function 82

-- LEFT OUT: function 65

-- LEFT OUT: function 47

-- GIVEN: function 22 (impl_LikeParse)

end Go.Proofs.YtdliagehkiihpaaGreatDoor.QU
