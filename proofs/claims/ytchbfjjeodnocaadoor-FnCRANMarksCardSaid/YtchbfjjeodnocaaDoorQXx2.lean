-- Written by a working copy of the kit's print program, turned at a few places by wip/tool/mkprint.py. Lean checks it.
import Derived.Test.YtchbfjjeodnocaaDoorQXx0
import Derived.Test.YtchbfjjeodnocaaDoorQXx1
import Derived.Test.YtchbfjjeodnocaaDoorQXx2p
import Derived.Test.YtchbfjjeodnocaaDoorXGivCp
namespace Go.Proofs.YtchbfjjeodnocaaDoor.QX
open Go.RowKit Go.Proofs.YtchbfjjeodnocaaDoorW.PrintWords Go.Proofs.YtchbfjjeodnocaaDoorW.PrintLast Go.Proofs.YtchbfjjeodnocaaDoorW.PrintMore
attribute [local go_sem] max2_int min2_int max_two min_two max_three min_three max_four min_four   -- for this text's walks alone
set_option linter.unusedVariables false
set_option linter.unusedSimpArgs false

attribute [local go_sem high] eqA43
/-! ### laws_cranAwake: function 46 -/
def laws_cranAwake.f (k : Nat)  : Option (Bool) := (Giv.impl_CRANCompare.f k (⟨#[49, 46, 49]⟩ : ByteArray) (⟨#[49, 46, 50]⟩ : ByteArray)).bind fun bt107 => ((Giv.impl_CRANParse.f k (⟨#[49, 46, 50]⟩ : ByteArray)).bind fun bt109 => (if bt107.2 = true then (if bt109.2 = true then (if bt107.1 = (-1) then (some ((bt109.1.length : Int) == 2)) else (some false)) else (some false)) else (some false)))
theorem laws_cranAwake.mono : ∀ k, LeO (laws_cranAwake.f k ) (laws_cranAwake.f (k + 1) ) := by
  intro  k
  unfold laws_cranAwake.f
  repeat' first
      | (with_reducible exact Giv.impl_CRANCompare.mono _ _ _)
      | (with_reducible exact Giv.impl_CRANParse.mono _ _)
      | (with_reducible exact LeO.refl _)
      | (with_reducible exact LeO.none _)
      | (with_reducible refine LeO.ite ?_ ?_)
      | (with_reducible refine LeO.bind ?_ (fun _ => ?_))
      | exact Giv.impl_CRANCompare.mono _ _ _
      | exact Giv.impl_CRANParse.mono _ _
      | exact LeO.none _
      | refine LeO.ite ?_ ?_
      | refine LeO.bind ?_ (fun _ => ?_)
set_option maxHeartbeats 8000000 in
set_option maxRecDepth 100000 in
theorem laws_cranAwake.calls (k : Nat)  (r : Bool) (w : World) (h : laws_cranAwake.f k  = some r) (hL : Giv.Laid w) :
    Calls Tryd.prog 46 #[] w fun e w' => e = .returned (.bool r) ∧ Below w.heap.size w w' := by
  have HLd := Aside0.mk hL
  clear hL
  have HB := Aside0.mk (Below.refl w.heap.size w)
  have H : ((Giv.impl_CRANCompare.f k (⟨#[49, 46, 49]⟩ : ByteArray) (⟨#[49, 46, 50]⟩ : ByteArray)).bind fun bt107 => ((Giv.impl_CRANParse.f k (⟨#[49, 46, 50]⟩ : ByteArray)).bind fun bt109 => (if bt107.2 = true then (if bt109.2 = true then (if bt107.1 = (-1) then (some ((bt109.1.length : Int) == 2)) else (some false)) else (some false)) else (some false)))) = some r := h
  clear h
  replace H := Option.bind_eq_some_iff.mp H
  obtain ⟨⟨t107, t108⟩, A10, H⟩ := H
  replace H : ((Giv.impl_CRANParse.f k (⟨#[49, 46, 50]⟩ : ByteArray)).bind fun bt109 => (if t108 = true then (if bt109.2 = true then (if t107 = (-1) then (some ((bt109.1.length : Int) == 2)) else (some false)) else (some false)) else (some false))) = some r := H
  have A1 := Aside0.mk A10
  clear A10
  replace H := Option.bind_eq_some_iff.mp H
  obtain ⟨⟨t109, t110⟩, A20, H⟩ := H
  replace H : (if t108 = true then (if t110 = true then (if t107 = (-1) then (some ((t109.length : Int) == 2)) else (some false)) else (some false)) else (some false)) = some r := H
  have A2 := Aside0.mk A20
  clear A20
  by_cases c3 : t108 = true
  · subst c3
    have H1 : (if t110 = true then (if t107 = (-1) then (some ((t109.length : Int) == 2)) else (some false)) else (some false)) = some r := by rw [if_pos rfl] at H; exact H
    clear H
    have H := H1
    clear H1
    by_cases c4 : t110 = true
    · subst c4
      have H1 : (if t107 = (-1) then (some ((t109.length : Int) == 2)) else (some false)) = some r := by rw [if_pos rfl] at H; exact H
      clear H
      have H := H1
      clear H1
      by_cases c5 : t107 = (-1)
      · rw [if_pos c5] at H
        have c5b0 : (t107 == (-1)) = true := beq_iff_eq.mpr c5
        have c5b1 : (t107 != (-1)) = false := bne_eq_false_iff_eq.mpr c5
        clear c5
        obtain rfl := Option.some.inj H
        go_enter Tryd.func46, Tryd.ntmps46
        go_wp2_with (first | ((with_reducible refine gate_callee (f := 43) rfl ?_); refine goesL_ (some 6) rfl rfl Tryd.func43 (by kernel_rfl) rfl #[.string (⟨#[49, 46, 49]⟩ : ByteArray), .string (⟨#[49, 46, 50]⟩ : ByteArray)] rfl (by (try simp only [List.map_toArray, List.map_cons, List.map_nil]); first | done | rfl | (simp only [List.length_drop, List.length_take]; rfl)) ?_; (with_reducible refine (Giv.impl_CRANCompare.calls k (⟨#[49, 46, 49]⟩ : ByteArray) (⟨#[49, 46, 50]⟩ : ByteArray) t107 true _ A1.out (HLd.out.below (by repeat (first | (with_reducible first | exact HB.out | apply below_alloc | apply pw_below_drewN | apply below_drew1) | exact HB.out)))).mono ?_); rintro e w6 ⟨rfl, hb⟩; refine ⟨_, rfl, ?_⟩; have n0_ := Aside0.mk (below_step (by repeat (first | (with_reducible first | exact HB.out | apply below_alloc | apply pw_below_drewN | apply below_drew1) | exact HB.out)) hb); clear HB; have HB := n0_; clear n0_; (try clear hb); (try clear hb2); (try clear hk); (try clear hi)) | ((with_reducible refine gate_callee (f := 45) rfl ?_); refine goesL_ (some 10) rfl rfl Tryd.func45 (by kernel_rfl) rfl #[.string (⟨#[49, 46, 50]⟩ : ByteArray)] rfl (by (try simp only [List.map_toArray, List.map_cons, List.map_nil]); first | done | rfl | (simp only [List.length_drop, List.length_take]; rfl)) ?_; (with_reducible refine (Giv.impl_CRANParse.calls k (⟨#[49, 46, 50]⟩ : ByteArray) t109 true _ A2.out (HLd.out.below (by repeat (first | (with_reducible first | exact HB.out | apply below_alloc | apply pw_below_drewN | apply below_drew1) | exact HB.out)))).mono ?_); rintro e w7 ⟨v111, rfl, ho0, hb⟩; refine ⟨_, rfl, ?_⟩; have n0_ := Aside0.mk (Kd.R_lower ho0 (below_size (by repeat (first | (with_reducible first | exact HB.out | apply below_alloc | apply pw_below_drewN | apply below_drew1) | exact HB.out)))); have n1_ := Aside0.mk (below_step (by repeat (first | (with_reducible first | exact HB.out | apply below_alloc | apply pw_below_drewN | apply below_drew1) | exact HB.out)) hb); clear HB; have HO112 := n0_; have HB := n1_; clear n0_ n1_; (try clear hb); (try clear hb2); (try clear hk); (try clear hi); (try clear ho0); obtain ⟨Ao8, co8, eo8⟩ := Kd.R_slice HO112.out; subst eo8))
        go_ret
        exact ⟨by first | rfl | (simp [errW_none, errW_some] <;> rfl) | (simp [*, errW_none, errW_some] <;> rfl) | (simp [bne_nil_]; done), by repeat (first | (with_reducible first | exact HB.out | apply below_alloc | apply pw_below_drewN | apply below_drew1) | exact HB.out)⟩
      · rw [if_neg c5] at H
        have c5b0 : (t107 == (-1)) = false := beq_eq_false_iff_ne.mpr c5
        have c5b1 : (t107 != (-1)) = true := bne_iff_ne.mpr c5
        obtain rfl := Option.some.inj H
        go_enter Tryd.func46, Tryd.ntmps46
        go_wp2_with (first | ((with_reducible refine gate_callee (f := 43) rfl ?_); refine goesL_ (some 6) rfl rfl Tryd.func43 (by kernel_rfl) rfl #[.string (⟨#[49, 46, 49]⟩ : ByteArray), .string (⟨#[49, 46, 50]⟩ : ByteArray)] rfl (by (try simp only [List.map_toArray, List.map_cons, List.map_nil]); first | done | rfl | (simp only [List.length_drop, List.length_take]; rfl)) ?_; (with_reducible refine (Giv.impl_CRANCompare.calls k (⟨#[49, 46, 49]⟩ : ByteArray) (⟨#[49, 46, 50]⟩ : ByteArray) t107 true _ A1.out (HLd.out.below (by repeat (first | (with_reducible first | exact HB.out | apply below_alloc | apply pw_below_drewN | apply below_drew1) | exact HB.out)))).mono ?_); rintro e w9 ⟨rfl, hb⟩; refine ⟨_, rfl, ?_⟩; have n0_ := Aside0.mk (below_step (by repeat (first | (with_reducible first | exact HB.out | apply below_alloc | apply pw_below_drewN | apply below_drew1) | exact HB.out)) hb); clear HB; have HB := n0_; clear n0_; (try clear hb); (try clear hb2); (try clear hk); (try clear hi)) | ((with_reducible refine gate_callee (f := 45) rfl ?_); refine goesL_ (some 10) rfl rfl Tryd.func45 (by kernel_rfl) rfl #[.string (⟨#[49, 46, 50]⟩ : ByteArray)] rfl (by (try simp only [List.map_toArray, List.map_cons, List.map_nil]); first | done | rfl | (simp only [List.length_drop, List.length_take]; rfl)) ?_; (with_reducible refine (Giv.impl_CRANParse.calls k (⟨#[49, 46, 50]⟩ : ByteArray) t109 true _ A2.out (HLd.out.below (by repeat (first | (with_reducible first | exact HB.out | apply below_alloc | apply pw_below_drewN | apply below_drew1) | exact HB.out)))).mono ?_); rintro e w10 ⟨v111, rfl, ho0, hb⟩; refine ⟨_, rfl, ?_⟩; have n0_ := Aside0.mk (Kd.R_lower ho0 (below_size (by repeat (first | (with_reducible first | exact HB.out | apply below_alloc | apply pw_below_drewN | apply below_drew1) | exact HB.out)))); have n1_ := Aside0.mk (below_step (by repeat (first | (with_reducible first | exact HB.out | apply below_alloc | apply pw_below_drewN | apply below_drew1) | exact HB.out)) hb); clear HB; have HO112 := n0_; have HB := n1_; clear n0_ n1_; (try clear hb); (try clear hb2); (try clear hk); (try clear hi); (try clear ho0)))
        go_ret
        exact ⟨by first | rfl | (simp [errW_none, errW_some] <;> rfl) | (simp [*, errW_none, errW_some] <;> rfl) | (simp [bne_nil_]; done), by repeat (first | (with_reducible first | exact HB.out | apply below_alloc | apply pw_below_drewN | apply below_drew1) | exact HB.out)⟩
    · replace c4 := Bool.eq_false_iff.mpr c4
      subst c4
      have H1 : (some false) = some r := by rw [if_neg (show ¬ (false = true) by decide)] at H; exact H
      clear H
      have H := H1
      clear H1
      obtain rfl := Option.some.inj H
      go_enter Tryd.func46, Tryd.ntmps46
      go_wp2_with (first | ((with_reducible refine gate_callee (f := 43) rfl ?_); refine goesL_ (some 6) rfl rfl Tryd.func43 (by kernel_rfl) rfl #[.string (⟨#[49, 46, 49]⟩ : ByteArray), .string (⟨#[49, 46, 50]⟩ : ByteArray)] rfl (by (try simp only [List.map_toArray, List.map_cons, List.map_nil]); first | done | rfl | (simp only [List.length_drop, List.length_take]; rfl)) ?_; (with_reducible refine (Giv.impl_CRANCompare.calls k (⟨#[49, 46, 49]⟩ : ByteArray) (⟨#[49, 46, 50]⟩ : ByteArray) t107 true _ A1.out (HLd.out.below (by repeat (first | (with_reducible first | exact HB.out | apply below_alloc | apply pw_below_drewN | apply below_drew1) | exact HB.out)))).mono ?_); rintro e w11 ⟨rfl, hb⟩; refine ⟨_, rfl, ?_⟩; have n0_ := Aside0.mk (below_step (by repeat (first | (with_reducible first | exact HB.out | apply below_alloc | apply pw_below_drewN | apply below_drew1) | exact HB.out)) hb); clear HB; have HB := n0_; clear n0_; (try clear hb); (try clear hb2); (try clear hk); (try clear hi)) | ((with_reducible refine gate_callee (f := 45) rfl ?_); refine goesL_ (some 10) rfl rfl Tryd.func45 (by kernel_rfl) rfl #[.string (⟨#[49, 46, 50]⟩ : ByteArray)] rfl (by (try simp only [List.map_toArray, List.map_cons, List.map_nil]); first | done | rfl | (simp only [List.length_drop, List.length_take]; rfl)) ?_; (with_reducible refine (Giv.impl_CRANParse.calls k (⟨#[49, 46, 50]⟩ : ByteArray) t109 false _ A2.out (HLd.out.below (by repeat (first | (with_reducible first | exact HB.out | apply below_alloc | apply pw_below_drewN | apply below_drew1) | exact HB.out)))).mono ?_); rintro e w12 ⟨v111, rfl, ho0, hb⟩; refine ⟨_, rfl, ?_⟩; have n0_ := Aside0.mk (Kd.R_lower ho0 (below_size (by repeat (first | (with_reducible first | exact HB.out | apply below_alloc | apply pw_below_drewN | apply below_drew1) | exact HB.out)))); have n1_ := Aside0.mk (below_step (by repeat (first | (with_reducible first | exact HB.out | apply below_alloc | apply pw_below_drewN | apply below_drew1) | exact HB.out)) hb); clear HB; have HO112 := n0_; have HB := n1_; clear n0_ n1_; (try clear hb); (try clear hb2); (try clear hk); (try clear hi); (try clear ho0)))
      go_ret
      exact ⟨by first | rfl | (simp [errW_none, errW_some] <;> rfl) | (simp [*, errW_none, errW_some] <;> rfl) | (simp [bne_nil_]; done), by repeat (first | (with_reducible first | exact HB.out | apply below_alloc | apply pw_below_drewN | apply below_drew1) | exact HB.out)⟩
  · replace c3 := Bool.eq_false_iff.mpr c3
    subst c3
    have H1 : (some false) = some r := by rw [if_neg (show ¬ (false = true) by decide)] at H; exact H
    clear H
    have H := H1
    clear H1
    obtain rfl := Option.some.inj H
    go_enter Tryd.func46, Tryd.ntmps46
    go_wp2_with (first | ((with_reducible refine gate_callee (f := 43) rfl ?_); refine goesL_ (some 6) rfl rfl Tryd.func43 (by kernel_rfl) rfl #[.string (⟨#[49, 46, 49]⟩ : ByteArray), .string (⟨#[49, 46, 50]⟩ : ByteArray)] rfl (by (try simp only [List.map_toArray, List.map_cons, List.map_nil]); first | done | rfl | (simp only [List.length_drop, List.length_take]; rfl)) ?_; (with_reducible refine (Giv.impl_CRANCompare.calls k (⟨#[49, 46, 49]⟩ : ByteArray) (⟨#[49, 46, 50]⟩ : ByteArray) t107 false _ A1.out (HLd.out.below (by repeat (first | (with_reducible first | exact HB.out | apply below_alloc | apply pw_below_drewN | apply below_drew1) | exact HB.out)))).mono ?_); rintro e w13 ⟨rfl, hb⟩; refine ⟨_, rfl, ?_⟩; have n0_ := Aside0.mk (below_step (by repeat (first | (with_reducible first | exact HB.out | apply below_alloc | apply pw_below_drewN | apply below_drew1) | exact HB.out)) hb); clear HB; have HB := n0_; clear n0_; (try clear hb); (try clear hb2); (try clear hk); (try clear hi)) | ((with_reducible refine gate_callee (f := 45) rfl ?_); refine goesL_ (some 10) rfl rfl Tryd.func45 (by kernel_rfl) rfl #[.string (⟨#[49, 46, 50]⟩ : ByteArray)] rfl (by (try simp only [List.map_toArray, List.map_cons, List.map_nil]); first | done | rfl | (simp only [List.length_drop, List.length_take]; rfl)) ?_; (with_reducible refine (Giv.impl_CRANParse.calls k (⟨#[49, 46, 50]⟩ : ByteArray) t109 t110 _ A2.out (HLd.out.below (by repeat (first | (with_reducible first | exact HB.out | apply below_alloc | apply pw_below_drewN | apply below_drew1) | exact HB.out)))).mono ?_); rintro e w14 ⟨v111, rfl, ho0, hb⟩; refine ⟨_, rfl, ?_⟩; have n0_ := Aside0.mk (Kd.R_lower ho0 (below_size (by repeat (first | (with_reducible first | exact HB.out | apply below_alloc | apply pw_below_drewN | apply below_drew1) | exact HB.out)))); have n1_ := Aside0.mk (below_step (by repeat (first | (with_reducible first | exact HB.out | apply below_alloc | apply pw_below_drewN | apply below_drew1) | exact HB.out)) hb); clear HB; have HO112 := n0_; have HB := n1_; clear n0_ n1_; (try clear hb); (try clear hb2); (try clear hk); (try clear hi); (try clear ho0)))
    go_ret
    exact ⟨by first | rfl | (simp [errW_none, errW_some] <;> rfl) | (simp [*, errW_none, errW_some] <;> rfl) | (simp [bne_nil_]; done), by repeat (first | (with_reducible first | exact HB.out | apply below_alloc | apply pw_below_drewN | apply below_drew1) | exact HB.out)⟩

/-! ### laws_ints: function 47 -/
def laws_ints.l0 : Nat → List (S43) → List (S43) → Int → Int → Option (Bool)
  | 0, _, _, _, _ => none
  | k + 1, x0, x1, x12, x13 => if x13 < x12 then (if 0 ≤ x13 then (if x13 < (x0.length : Int) then (if x13 < (x1.length : Int) then (if (!(((rd_T43 x0 x13).f0) == ((rd_T43 x1 x13).f0)) || (!((((rd_T43 x0 x13).f1).toList) == (((rd_T43 x1 x13).f1).toList)))) = true then (some false) else (laws_ints.l0 k x0 x1 x12 (wrap64 (x13 + 1)))) else (none)) else (none)) else (none)) else (some true)
def laws_ints.f (k : Nat) (l0 : List (S43)) (l1 : List (S43)) : Option (Bool) := if (l0.length : Int) = (l1.length : Int) then (laws_ints.l0 k l0 l1 (l0.length : Int) 0) else (some false)
theorem laws_ints.mono_l : ∀ k, (∀ y0 y1 y2 y3, LeO (laws_ints.l0 k y0 y1 y2 y3) (laws_ints.l0 (k + 1) y0 y1 y2 y3))
  | 0 => fun _ _ _ _ r h => by simp [laws_ints.l0] at h
  | k + 1 => by
    have ih0 := laws_ints.mono_l k
    · intro y0 y1 y2 y3
      unfold laws_ints.l0
      repeat' first
      | (with_reducible exact ih0 _ _ _ _)
      | (with_reducible exact LeO.refl _)
      | (with_reducible exact LeO.none _)
      | (with_reducible refine LeO.ite ?_ ?_)
      | (with_reducible refine LeO.bind ?_ (fun _ => ?_))
      | exact ih0 _ _ _ _
      | exact LeO.none _
      | refine LeO.ite ?_ ?_
      | refine LeO.bind ?_ (fun _ => ?_)
theorem laws_ints.mono : ∀ a0 a1 k, LeO (laws_ints.f k a0 a1) (laws_ints.f (k + 1) a0 a1) := by
  intro a0 a1 k
  have ih0 := laws_ints.mono_l k
  unfold laws_ints.f
  repeat' first
      | (with_reducible exact ih0 _ _ _ _)
      | (with_reducible exact LeO.refl _)
      | (with_reducible exact LeO.none _)
      | (with_reducible refine LeO.ite ?_ ?_)
      | (with_reducible refine LeO.bind ?_ (fun _ => ?_))
      | exact ih0 _ _ _ _
      | exact LeO.none _
      | refine LeO.ite ?_ ?_
      | refine LeO.bind ?_ (fun _ => ?_)
set_option maxHeartbeats 8000000 in
set_option maxRecDepth 100000 in
theorem laws_ints.calls (k : Nat) (A0 : Option Addr) (c0 : Nat) (l0 : List (S43)) (A1 : Option Addr) (c1 : Nat) (l1 : List (S43)) (r : Bool) (w : World) (hr0 : Kd.C k43 w A0 l0.length l0) (hc0 : l0.length ≤ c0) (hr1 : Kd.C k43 w A1 l1.length l1) (hc1 : l1.length ≤ c1) (h : laws_ints.f k l0 l1 = some r) :
    Calls Tryd.prog 47 #[.slice A0 l0.length c0, .slice A1 l1.length c1] w fun e w' => e = .returned (.bool r) ∧ Drawn0 w w' := by
  have hu43 := Tryd.underlying43
  have HR0 := Aside0.mk hr0
  have HC0 := Aside0.mk hc0
  clear hr0 hc0
  have HR1 := Aside0.mk hr1
  have HC1 := Aside0.mk hc1
  clear hr1 hc1
  have H : (if (l0.length : Int) = (l1.length : Int) then (laws_ints.l0 k l0 l1 (l0.length : Int) 0) else (some false)) = some r := h
  clear h
  by_cases c3 : (l0.length : Int) = (l1.length : Int)
  · rw [if_pos c3] at H
    have c3b0 : ((l0.length : Int) == (l1.length : Int)) = true := beq_iff_eq.mpr c3
    have c3b1 : ((l0.length : Int) != (l1.length : Int)) = false := bne_eq_false_iff_eq.mpr c3
    have c3b2 : (l0.length == l1.length) = true := by first | simpa using c3 | (simp at c3 ⊢; omega)
    clear c3
    have H' := Aside0.mk H
    clear H
    go_enter Tryd.func47, Tryd.ntmps47
    go_wp2
    repeat (go_quiet (fail); try go_wp2)
    go_loopg [13] k (fun kq v13 w' => ∃ (x13_1 : Int), v13 = .int .i64 x13_1 ∧ Aside0 (laws_ints.l0 kq l0 l1 (l0.length : Int) x13_1 = some r) ∧ Aside0 (kq ≤ k) ∧ Drawn0 w w')
    case atStart => exact ⟨(0), (by first | rfl | (simp; done) | (simp [*]; done) | (simp [bne_nil_]; done)), H', ⟨Nat.le_refl _⟩, by repeat (first | exact Drawn0.refl _ | apply Drawn0.step)⟩
    case round =>
      clear H'
      try clear c1
      try clear p2
      try clear c3
      try clear c3b0
      try clear c3b1
      try clear c3b2
      obtain ⟨x13_1, rfl, HA, HK1, ⟨m1, rfl⟩⟩ := hrel
      cases gk with
      | zero => exact absurd HA.out (by simp [laws_ints.l0])
      | succ k1 =>
        have H := HA.out
        clear HA
        simp only [laws_ints.l0] at H
        by_cases c4 : x13_1 < (l0.length : Int)
        · rw [if_pos c4] at H
          have c4b0 : decide (x13_1 < (l0.length : Int)) = true := decide_eq_true c4
          clear c4
          by_cases c5 : 0 ≤ x13_1
          · rw [if_pos c5] at H
            have c5b0 : decide (0 ≤ x13_1) = true := decide_eq_true c5
            clear c5
            by_cases c6 : x13_1 < (l0.length : Int)
            · rw [if_pos c6] at H
              have c6b0 : decide (x13_1 < (l0.length : Int)) = true := decide_eq_true c6
              clear c6
              by_cases c7 : x13_1 < (l1.length : Int)
              · rw [if_pos c7] at H
                have c7b0 : decide (x13_1 < (l1.length : Int)) = true := decide_eq_true c7
                clear c7
                by_cases c8 : (!(((rd_T43 l0 x13_1).f0) == ((rd_T43 l1 x13_1).f0)) || (!((((rd_T43 l0 x13_1).f1).toList) == (((rd_T43 l1 x13_1).f1).toList)))) = true
                · rw [if_pos c8] at H
                  have c8b0 : (!(((rd_T43 l0 x13_1).f0) == ((rd_T43 l1 x13_1).f0)) || (!((((rd_T43 l0 x13_1).f1).toList) == (((rd_T43 l1 x13_1).f1).toList)))) = true := c8
                  clear c8
                  obtain rfl := Option.some.inj H
                  have p113 : 0 ≤ (x13_1 : Int) := of_decide_eq_true (by first | (with_reducible assumption) | assumption)
                  have q113 : x13_1 < (l0.length : Int) := of_decide_eq_true (by first | (with_reducible assumption) | assumption)
                  obtain ⟨ad113, e113, hx113_0, hx113_1⟩ := at_T43 HR0.out x13_1 p113 q113
                  cases e113
                  replace p113 := eq_true p113
                  replace q113 := eq_true q113
                  have p114 : 0 ≤ (x13_1 : Int) := of_decide_eq_true (by first | (with_reducible assumption) | assumption)
                  have q114 : x13_1 < (l1.length : Int) := of_decide_eq_true (by first | (with_reducible assumption) | assumption)
                  obtain ⟨ad114, e114, hx114_0, hx114_1⟩ := at_T43 HR1.out x13_1 p114 q114
                  cases e114
                  replace p114 := eq_true p114
                  replace q114 := eq_true q114
                  go_wp2
                  repeat (go_quiet (fail); try go_wp2)
                  go_ret
                  exact ⟨by first | rfl | (simp; done) | (simp [*]; done) | (simp [bne_nil_]; done), by repeat (first | exact Drawn0.refl _ | apply Drawn0.step)⟩
                · rw [if_neg c8] at H
                  have c8b0 : (!(((rd_T43 l0 x13_1).f0) == ((rd_T43 l1 x13_1).f0)) || (!((((rd_T43 l0 x13_1).f1).toList) == (((rd_T43 l1 x13_1).f1).toList)))) = false := by simpa using c8
                  clear c8
                  have H' := Aside0.mk H
                  clear H
                  have p113 : 0 ≤ (x13_1 : Int) := of_decide_eq_true (by first | (with_reducible assumption) | assumption)
                  have q113 : x13_1 < (l0.length : Int) := of_decide_eq_true (by first | (with_reducible assumption) | assumption)
                  obtain ⟨ad113, e113, hx113_0, hx113_1⟩ := at_T43 HR0.out x13_1 p113 q113
                  cases e113
                  replace p113 := eq_true p113
                  replace q113 := eq_true q113
                  have p114 : 0 ≤ (x13_1 : Int) := of_decide_eq_true (by first | (with_reducible assumption) | assumption)
                  have q114 : x13_1 < (l1.length : Int) := of_decide_eq_true (by first | (with_reducible assumption) | assumption)
                  obtain ⟨ad114, e114, hx114_0, hx114_1⟩ := at_T43 HR1.out x13_1 p114 q114
                  cases e114
                  replace p114 := eq_true p114
                  replace q114 := eq_true q114
                  go_wp2
                  repeat (go_quiet (fail); try go_wp2)
                  go_roundg k1
                  case measure => have := HK1.out; omega
                  case rel => exact ⟨(wrap64 (x13_1 + 1)), (by first | rfl | (simp; done) | (simp [*]; done) | (simp [bne_nil_]; done)), H', ⟨by have := HK1.out; omega⟩, by repeat (first | exact Drawn0.refl _ | apply Drawn0.step)⟩
              · rw [if_neg c7] at H
                exact absurd H (by simp)
            · rw [if_neg c6] at H
              exact absurd H (by simp)
          · rw [if_neg c5] at H
            exact absurd H (by simp)
        · rw [if_neg c4] at H
          have c4b0 : decide (x13_1 < (l0.length : Int)) = false := decide_eq_false c4
          clear c4
          obtain rfl := Option.some.inj H
          go_wp2
          repeat (go_quiet (fail); try go_wp2)
          go_ret
          exact ⟨by first | rfl | (simp; done) | (simp [*]; done) | (simp [bne_nil_]; done), by repeat (first | exact Drawn0.refl _ | apply Drawn0.step)⟩
  · rw [if_neg c3] at H
    have c3b0 : ((l0.length : Int) == (l1.length : Int)) = false := beq_eq_false_iff_ne.mpr c3
    have c3b1 : ((l0.length : Int) != (l1.length : Int)) = true := bne_iff_ne.mpr c3
    have c3b2 : (l0.length == l1.length) = false := by first | simpa using c3 | (simp at c3 ⊢; omega)
    obtain rfl := Option.some.inj H
    go_enter Tryd.func47, Tryd.ntmps47
    go_wp2
    repeat (go_quiet (fail); try go_wp2)
    go_ret
    exact ⟨by first | rfl | (simp; done) | (simp [*]; done) | (simp [bne_nil_]; done), by repeat (first | exact Drawn0.refl _ | apply Drawn0.step)⟩

/-! ### laws_FnCRANMarks: function 10 -/
mutual
def laws_FnCRANMarks.j0 : Nat → ByteArray → Bool → Option (Bool)
  | 0, _, _ => none
  | k + 1, x0, x22 => if x22 = true then (some true) else (laws_FnCRANMarks.l0 k x0 (⟨#[]⟩ : ByteArray) 0)
def laws_FnCRANMarks.l0 : Nat → ByteArray → ByteArray → Int → Option (Bool)
  | 0, _, _, _ => none
  | k + 1, x0, x3, x4 => if x4 < (x0.size : Int) then (if 0 ≤ x4 then (if (bt x0 x4) = 45 then (if x3.size + 1 ≤ 9223372036854775807 then (laws_FnCRANMarks.l0 k x0 (x3 ++ (⟨#[46]⟩ : ByteArray)) (wrap64 (x4 + 1))) else (none)) else (if (bt x0 x4) = 46 then (if x3.size + 1 ≤ 9223372036854775807 then (laws_FnCRANMarks.l0 k x0 (x3 ++ (⟨#[45]⟩ : ByteArray)) (wrap64 (x4 + 1))) else (none)) else (if x4 ≤ (wrap64 (x4 + 1)) then (if (wrap64 (x4 + 1)) ≤ (x0.size : Int) then (if x3.size + (x0.extract (x4 : Int).toNat ((wrap64 (x4 + 1)) : Int).toNat).size ≤ 9223372036854775807 then (laws_FnCRANMarks.l0 k x0 (x3 ++ (x0.extract (x4 : Int).toNat ((wrap64 (x4 + 1)) : Int).toNat)) (wrap64 (x4 + 1))) else (none)) else (none)) else (none)))) else (none)) else ((Giv.impl_CRANParse.f k x0).bind fun bt120 => ((Giv.impl_CRANParse.f k x3).bind fun bt124 => (if bt120.2 = true then (laws_FnCRANMarks.j2 k x0 x3 bt120.1 bt120.2 bt124.1 bt124.2 (!bt124.2)) else (laws_FnCRANMarks.j2 k x0 x3 bt120.1 bt120.2 bt124.1 bt124.2 true))))
def laws_FnCRANMarks.j2 : Nat → ByteArray → ByteArray → List (S43) → Bool → List (S43) → Bool → Bool → Option (Bool)
  | 0, _, _, _, _, _, _, _ => none
  | k + 1, x0, x3, x5, x6, x7, x8, x62 => if x62 = true then (if (x6 == x8) = true then ((laws_cranAwake.f k).bind fun t128 => (some t128)) else (some false)) else ((Giv.impl_CRANCompare.f k x0 x3).bind fun bt129 => ((laws_ints.f k x5 x7).bind fun t131 => (if t131 = true then (if bt129.2 = true then (some (bt129.1 == 0)) else (some false)) else (some false))))
end
def laws_FnCRANMarks.f (k : Nat) (a0 : ByteArray) : Option (Bool) := if (a0.size : Int) > 2147483647 then (some true) else ((laws_short.f k (([a0] : List ByteArray))).bind fun t118 => (if t118 = true then ((laws_plain.f k a0 (⟨#[46, 45]⟩ : ByteArray)).bind fun t119 => (laws_FnCRANMarks.j0 k a0 (!t119))) else (laws_FnCRANMarks.j0 k a0 true)))
theorem laws_FnCRANMarks.mono_l : ∀ k, (∀ y0 y1, LeO (laws_FnCRANMarks.j0 k y0 y1) (laws_FnCRANMarks.j0 (k + 1) y0 y1)) ∧ (∀ y0 y1 y2, LeO (laws_FnCRANMarks.l0 k y0 y1 y2) (laws_FnCRANMarks.l0 (k + 1) y0 y1 y2)) ∧ (∀ y0 y1 y2 y3 y4 y5 y6, LeO (laws_FnCRANMarks.j2 k y0 y1 y2 y3 y4 y5 y6) (laws_FnCRANMarks.j2 (k + 1) y0 y1 y2 y3 y4 y5 y6))
  | 0 => ⟨fun _ _ r h => by simp [laws_FnCRANMarks.j0] at h, fun _ _ _ r h => by simp [laws_FnCRANMarks.l0] at h, fun _ _ _ _ _ _ _ r h => by simp [laws_FnCRANMarks.j2] at h⟩
  | k + 1 => by
    obtain ⟨ih0, ih1, ih2⟩ := laws_FnCRANMarks.mono_l k
    refine ⟨?_, ?_, ?_⟩
    · intro y0 y1
      unfold laws_FnCRANMarks.j0
      repeat' first
      | (with_reducible exact ih0 _ _)
      | (with_reducible exact ih1 _ _ _)
      | (with_reducible exact ih2 _ _ _ _ _ _ _)
      | (with_reducible exact Giv.impl_CRANCompare.mono _ _ _)
      | (with_reducible exact Giv.impl_CRANParse.mono _ _)
      | (with_reducible exact laws_cranAwake.mono _)
      | (with_reducible exact laws_ints.mono _ _ _)
      | (with_reducible exact laws_plain.mono _ _ _)
      | (with_reducible exact laws_short.mono _ _)
      | (with_reducible exact LeO.refl _)
      | (with_reducible exact LeO.none _)
      | (with_reducible refine LeO.ite ?_ ?_)
      | (with_reducible refine LeO.bind ?_ (fun _ => ?_))
      | exact ih0 _ _
      | exact ih1 _ _ _
      | exact ih2 _ _ _ _ _ _ _
      | exact Giv.impl_CRANCompare.mono _ _ _
      | exact Giv.impl_CRANParse.mono _ _
      | exact laws_cranAwake.mono _
      | exact laws_ints.mono _ _ _
      | exact laws_plain.mono _ _ _
      | exact laws_short.mono _ _
      | exact LeO.none _
      | refine LeO.ite ?_ ?_
      | refine LeO.bind ?_ (fun _ => ?_)
    · intro y0 y1 y2
      unfold laws_FnCRANMarks.l0
      repeat' first
      | (with_reducible exact ih0 _ _)
      | (with_reducible exact ih1 _ _ _)
      | (with_reducible exact ih2 _ _ _ _ _ _ _)
      | (with_reducible exact Giv.impl_CRANCompare.mono _ _ _)
      | (with_reducible exact Giv.impl_CRANParse.mono _ _)
      | (with_reducible exact laws_cranAwake.mono _)
      | (with_reducible exact laws_ints.mono _ _ _)
      | (with_reducible exact laws_plain.mono _ _ _)
      | (with_reducible exact laws_short.mono _ _)
      | (with_reducible exact LeO.refl _)
      | (with_reducible exact LeO.none _)
      | (with_reducible refine LeO.ite ?_ ?_)
      | (with_reducible refine LeO.bind ?_ (fun _ => ?_))
      | exact ih0 _ _
      | exact ih1 _ _ _
      | exact ih2 _ _ _ _ _ _ _
      | exact Giv.impl_CRANCompare.mono _ _ _
      | exact Giv.impl_CRANParse.mono _ _
      | exact laws_cranAwake.mono _
      | exact laws_ints.mono _ _ _
      | exact laws_plain.mono _ _ _
      | exact laws_short.mono _ _
      | exact LeO.none _
      | refine LeO.ite ?_ ?_
      | refine LeO.bind ?_ (fun _ => ?_)
    · intro y0 y1 y2 y3 y4 y5 y6
      unfold laws_FnCRANMarks.j2
      repeat' first
      | (with_reducible exact ih0 _ _)
      | (with_reducible exact ih1 _ _ _)
      | (with_reducible exact ih2 _ _ _ _ _ _ _)
      | (with_reducible exact Giv.impl_CRANCompare.mono _ _ _)
      | (with_reducible exact Giv.impl_CRANParse.mono _ _)
      | (with_reducible exact laws_cranAwake.mono _)
      | (with_reducible exact laws_ints.mono _ _ _)
      | (with_reducible exact laws_plain.mono _ _ _)
      | (with_reducible exact laws_short.mono _ _)
      | (with_reducible exact LeO.refl _)
      | (with_reducible exact LeO.none _)
      | (with_reducible refine LeO.ite ?_ ?_)
      | (with_reducible refine LeO.bind ?_ (fun _ => ?_))
      | exact ih0 _ _
      | exact ih1 _ _ _
      | exact ih2 _ _ _ _ _ _ _
      | exact Giv.impl_CRANCompare.mono _ _ _
      | exact Giv.impl_CRANParse.mono _ _
      | exact laws_cranAwake.mono _
      | exact laws_ints.mono _ _ _
      | exact laws_plain.mono _ _ _
      | exact laws_short.mono _ _
      | exact LeO.none _
      | refine LeO.ite ?_ ?_
      | refine LeO.bind ?_ (fun _ => ?_)
theorem laws_FnCRANMarks.mono : ∀ a0 k, LeO (laws_FnCRANMarks.f k a0) (laws_FnCRANMarks.f (k + 1) a0) := by
  intro a0 k
  obtain ⟨ih0, ih1, ih2⟩ := laws_FnCRANMarks.mono_l k
  unfold laws_FnCRANMarks.f
  repeat' first
      | (with_reducible exact ih0 _ _)
      | (with_reducible exact ih1 _ _ _)
      | (with_reducible exact ih2 _ _ _ _ _ _ _)
      | (with_reducible exact Giv.impl_CRANCompare.mono _ _ _)
      | (with_reducible exact Giv.impl_CRANParse.mono _ _)
      | (with_reducible exact laws_cranAwake.mono _)
      | (with_reducible exact laws_ints.mono _ _ _)
      | (with_reducible exact laws_plain.mono _ _ _)
      | (with_reducible exact laws_short.mono _ _)
      | (with_reducible exact LeO.refl _)
      | (with_reducible exact LeO.none _)
      | (with_reducible refine LeO.ite ?_ ?_)
      | (with_reducible refine LeO.bind ?_ (fun _ => ?_))
      | exact ih0 _ _
      | exact ih1 _ _ _
      | exact ih2 _ _ _ _ _ _ _
      | exact Giv.impl_CRANCompare.mono _ _ _
      | exact Giv.impl_CRANParse.mono _ _
      | exact laws_cranAwake.mono _
      | exact laws_ints.mono _ _ _
      | exact laws_plain.mono _ _ _
      | exact laws_short.mono _ _
      | exact LeO.none _
      | refine LeO.ite ?_ ?_
      | refine LeO.bind ?_ (fun _ => ?_)
set_option maxHeartbeats 8000000 in
set_option maxRecDepth 100000 in
theorem laws_FnCRANMarks.calls (k : Nat) (a0 : ByteArray) (r : Bool) (w : World) (h : laws_FnCRANMarks.f k a0 = some r) (hL : Giv.Laid w) :
    Calls Tryd.prog 10 #[.string a0] w fun e w' => e = .returned (.bool r) ∧ Below w.heap.size w w' := by
  have HLd := Aside0.mk hL
  clear hL
  have HB := Aside0.mk (Below.refl w.heap.size w)
  have H : (if (a0.size : Int) > 2147483647 then (some true) else ((laws_short.f k (([a0] : List ByteArray))).bind fun t118 => (if t118 = true then ((laws_plain.f k a0 (⟨#[46, 45]⟩ : ByteArray)).bind fun t119 => (laws_FnCRANMarks.j0 k a0 (!t119))) else (laws_FnCRANMarks.j0 k a0 true)))) = some r := h
  clear h
  by_cases c2 : (a0.size : Int) > 2147483647
  · rw [if_pos c2] at H
    have c2b0 : decide (2147483647 < (a0.size : Int)) = true := decide_eq_true c2
    have c2b1 : decide (2147483647 < a0.size) = true := decide_eq_true (by omega)
    clear c2
    obtain rfl := Option.some.inj H
    go_enter Tryd.func10, Tryd.ntmps10
    go_wp2
    go_ret
    exact ⟨by first | rfl | (simp [errW_none, errW_some] <;> rfl) | (simp [*, errW_none, errW_some] <;> rfl) | (simp [bne_nil_]; done), by repeat (first | (with_reducible first | exact HB.out | apply below_alloc | apply pw_below_drewN | apply below_drew1) | exact HB.out)⟩
  · rw [if_neg c2] at H
    have c2b0 : decide (2147483647 < (a0.size : Int)) = false := decide_eq_false c2
    have c2b1 : decide (2147483647 < a0.size) = false := decide_eq_false (by omega)
    clear c2
    have HC3 := Aside0.mk H
    clear H
    go_enter Tryd.func10, Tryd.ntmps10
    go_upto_region 3 with (fail)
    go_cut [22] (fun v22 wc => ∃ (kq : Nat) (x22_2 : Bool), v22 = .bool x22_2 ∧ Aside0 (laws_FnCRANMarks.j0 kq a0 x22_2 = some r) ∧ Aside0 (kq ≤ k) ∧ Aside0 (Below w.heap.size w wc))
    case first =>
      have H := HC3.out
      clear HC3
      obtain ⟨y115, hy115⟩ : ∃ y_ : List ByteArray, y_ = (([a0] : List ByteArray)) := ⟨_, rfl⟩
      replace H : ((laws_short.f k y115).bind fun t118 => (if t118 = true then ((laws_plain.f k a0 (⟨#[46, 45]⟩ : ByteArray)).bind fun t119 => (laws_FnCRANMarks.j0 k a0 (!t119))) else (laws_FnCRANMarks.j0 k a0 true))) = some r := by first | (rw [hy115]; with_reducible exact H) | (have H2_ := (Option.bind_some _ _).symm.trans H; rw [hy115]; with_reducible exact H2_) | (have H2_ := (Option.bind_some _ _).symm.trans H; with_reducible exact H2_) | with_reducible exact H | (rw [hy115]; exact H) | exact H
      have Ny115 := Aside0.mk hy115
      clear hy115
      replace H := Option.bind_eq_some_iff.mp H
      obtain ⟨t118, A40, H⟩ := H
      replace H : (if t118 = true then ((laws_plain.f k a0 (⟨#[46, 45]⟩ : ByteArray)).bind fun t119 => (laws_FnCRANMarks.j0 k a0 (!t119))) else (laws_FnCRANMarks.j0 k a0 true)) = some r := H
      have A4 := Aside0.mk A40
      clear A40
      by_cases c5 : t118 = true
      · subst c5
        have H1 : ((laws_plain.f k a0 (⟨#[46, 45]⟩ : ByteArray)).bind fun t119 => (laws_FnCRANMarks.j0 k a0 (!t119))) = some r := by rw [if_pos rfl] at H; exact H
        clear H
        have H := H1
        clear H1
        replace H := Option.bind_eq_some_iff.mp H
        obtain ⟨t119, A60, H⟩ := H
        replace H : (laws_FnCRANMarks.j0 k a0 (!t119)) = some r := H
        have A6 := Aside0.mk A60
        clear A60
        have H' := Aside0.mk H
        clear H
        go_wp2_with (first | ((with_reducible refine gate_dst (N := 15) rfl ?_); refine Kd.R_lit Kd.string _ 9 ?hg (N := 15) ?hd (xs := ([a0] : List ByteArray)) (inner := [.string a0]) (ok := fun _ => True) (okp := fun _ => True) ?hr ?hp (fun _ hk => hk) trivial (Below.refl _ _) (Nat.le_refl _) (by simp) ?_; (case hd => rfl); (case hg => rfl); (case hr => first | (go_simp; done) | (go_simp; rfl)); (case hp => exact (Reps.one (show Kd.M Kd.string _ _ _ a0 [.string a0] from rfl) (Reps.none _ _))); intro v116 w7 ho8 hb hg_ hnew_; clear hg_ hnew_; (first | rw [← Ny115.out] at ho8 | (simp only [Int.reduceToNat] at ho8; rw [← Ny115.out] at ho8)); have n0_ := Aside0.mk (Kd.R_lower ho8 (below_size (by repeat (first | (with_reducible first | exact HB.out | apply below_alloc | apply pw_below_drewN | apply below_drew1) | exact HB.out)))); have n1_ := Aside0.mk (below_step (by repeat (first | (with_reducible first | exact HB.out | apply below_alloc | apply pw_below_drewN | apply below_drew1) | exact HB.out)) hb); clear HB; have HO117 := n0_; have HB := n1_; clear n0_ n1_; clear hb ho8; obtain ⟨Ao9, co9, eo9⟩ := Kd.R_slice HO117.out; subst eo9) | ((with_reducible refine gate_callee (f := 15) rfl ?_); refine goesL_ (some 16) rfl rfl Tryd.func15 (by kernel_rfl) rfl #[.slice Ao9 y115.length co9] rfl (by (try simp only [List.map_toArray, List.map_cons, List.map_nil]); first | done | rfl | (simp only [List.length_drop, List.length_take]; rfl)) ?_; (with_reducible refine (laws_short.calls k _ _ y115 true _ ?side1 ?side2 A4.out).mono ?_); (case side1 => repeat (first | exact (Kd.R_reads' HO117.out).2.2 | (with_reducible refine Kd.C_alloc ?_ _) | (with_reducible refine Kd.C_drewN ?_ _) | (with_reducible refine Kd.C_drew ?_))); (case side2 => exact (Kd.R_reads' HO117.out).2.1); rintro e w' ⟨rfl, ⟨nd, rfl⟩⟩; refine ⟨_, rfl, ?_⟩) | (go_at_call 28; (with_reducible refine (laws_plain.calls k a0 (⟨#[46, 45]⟩ : ByteArray) t119 _ A6.out).mono ?_); rintro e w' ⟨rfl, ⟨nd, rfl⟩⟩))
        go_meet
        case rel => exact ⟨_, (!t119), (by first | rfl | (simp; done) | (simp [*]; done) | (simp [bne_nil_]; done)), H', ⟨by first | omega | exact Nat.le_refl _⟩, ⟨by repeat (first | (with_reducible first | exact HB.out | apply below_alloc | apply pw_below_drewN | apply below_drew1) | exact HB.out)⟩⟩
      · replace c5 := Bool.eq_false_iff.mpr c5
        subst c5
        have H1 : (laws_FnCRANMarks.j0 k a0 true) = some r := by rw [if_neg (show ¬ (false = true) by decide)] at H; exact H
        clear H
        have H := H1
        clear H1
        have H' := Aside0.mk H
        clear H
        go_wp2_with (first | ((with_reducible refine gate_dst (N := 15) rfl ?_); refine Kd.R_lit Kd.string _ 9 ?hg (N := 15) ?hd (xs := ([a0] : List ByteArray)) (inner := [.string a0]) (ok := fun _ => True) (okp := fun _ => True) ?hr ?hp (fun _ hk => hk) trivial (Below.refl _ _) (Nat.le_refl _) (by simp) ?_; (case hd => rfl); (case hg => rfl); (case hr => first | (go_simp; done) | (go_simp; rfl)); (case hp => exact (Reps.one (show Kd.M Kd.string _ _ _ a0 [.string a0] from rfl) (Reps.none _ _))); intro v116 w10 ho11 hb hg_ hnew_; clear hg_ hnew_; (first | rw [← Ny115.out] at ho11 | (simp only [Int.reduceToNat] at ho11; rw [← Ny115.out] at ho11)); have n0_ := Aside0.mk (Kd.R_lower ho11 (below_size (by repeat (first | (with_reducible first | exact HB.out | apply below_alloc | apply pw_below_drewN | apply below_drew1) | exact HB.out)))); have n1_ := Aside0.mk (below_step (by repeat (first | (with_reducible first | exact HB.out | apply below_alloc | apply pw_below_drewN | apply below_drew1) | exact HB.out)) hb); clear HB; have HO117 := n0_; have HB := n1_; clear n0_ n1_; clear hb ho11; obtain ⟨Ao12, co12, eo12⟩ := Kd.R_slice HO117.out; subst eo12) | ((with_reducible refine gate_callee (f := 15) rfl ?_); refine goesL_ (some 16) rfl rfl Tryd.func15 (by kernel_rfl) rfl #[.slice Ao12 y115.length co12] rfl (by (try simp only [List.map_toArray, List.map_cons, List.map_nil]); first | done | rfl | (simp only [List.length_drop, List.length_take]; rfl)) ?_; (with_reducible refine (laws_short.calls k _ _ y115 false _ ?side1 ?side2 A4.out).mono ?_); (case side1 => repeat (first | exact (Kd.R_reads' HO117.out).2.2 | (with_reducible refine Kd.C_alloc ?_ _) | (with_reducible refine Kd.C_drewN ?_ _) | (with_reducible refine Kd.C_drew ?_))); (case side2 => exact (Kd.R_reads' HO117.out).2.1); rintro e w' ⟨rfl, ⟨nd, rfl⟩⟩; refine ⟨_, rfl, ?_⟩))
        go_meet
        case rel => exact ⟨_, (true), (by first | rfl | (simp; done) | (simp [*]; done) | (simp [bne_nil_]; done)), H', ⟨by first | omega | exact Nat.le_refl _⟩, ⟨by repeat (first | (with_reducible first | exact HB.out | apply below_alloc | apply pw_below_drewN | apply below_drew1) | exact HB.out)⟩⟩
    case rest =>
      clear HC3
      try clear c1
      try clear c2
      try clear c2b0
      try clear c2b1
      try clear p2
      try clear c5
      try clear c10
      obtain ⟨kq, x22_2, rfl, HA, HJ2, HB⟩ := hcut
      cases kq with
      | zero => exact absurd HA.out (by simp [laws_FnCRANMarks.j0])
      | succ kj2 =>
        have H := HA.out
        clear HA
        simp only [laws_FnCRANMarks.j0] at H
        by_cases c13 : x22_2 = true
        · subst c13
          have H1 : (some true) = some r := by rw [if_pos rfl] at H; exact H
          clear H
          have H := H1
          clear H1
          obtain rfl := Option.some.inj H
          go_wp2
          go_ret
          exact ⟨by first | rfl | (simp [errW_none, errW_some] <;> rfl) | (simp [*, errW_none, errW_some] <;> rfl) | (simp [bne_nil_]; done), by repeat (first | (with_reducible first | exact HB.out | apply below_alloc | apply pw_below_drewN | apply below_drew1) | exact HB.out)⟩
        · replace c13 := Bool.eq_false_iff.mpr c13
          subst c13
          have H1 : (laws_FnCRANMarks.l0 kj2 a0 (⟨#[]⟩ : ByteArray) 0) = some r := by rw [if_neg (show ¬ (false = true) by decide)] at H; exact H
          clear H
          have H := H1
          clear H1
          have H' := Aside0.mk H
          clear H
          go_wp2
          go_loopg [3, 4] kj2 (fun kq v3 v4 w' => ∃ (x3_2 : ByteArray) (x4_2 : Int), v3 = .string x3_2 ∧ v4 = .int .i64 x4_2 ∧ Aside0 (laws_FnCRANMarks.l0 kq a0 x3_2 x4_2 = some r) ∧ Aside0 (kq ≤ kj2) ∧ Aside0 (Below w.heap.size w w'))
          case atStart => exact ⟨((⟨#[]⟩ : ByteArray)), (0), (by first | rfl | (simp; done) | (simp [*]; done) | (simp [bne_nil_]; done)), (by first | rfl | (simp; done) | (simp [*]; done) | (simp [bne_nil_]; done)), H', ⟨Nat.le_refl _⟩, ⟨by repeat (first | (with_reducible first | exact HB.out | apply below_alloc | apply pw_below_drewN | apply below_drew1) | exact HB.out)⟩⟩
          case round =>
            clear H'
            try clear c1
            try clear c2
            try clear c2b0
            try clear c2b1
            try clear p2
            try clear c5
            try clear c10
            try clear c13
            try clear p2
            obtain ⟨x3_2, x4_2, rfl, rfl, HA, HK2, HB⟩ := hrel
            cases gk with
            | zero => exact absurd HA.out (by simp [laws_FnCRANMarks.l0])
            | succ k2 =>
              have H := HA.out
              clear HA
              simp only [laws_FnCRANMarks.l0] at H
              by_cases c14 : x4_2 < (a0.size : Int)
              · rw [if_pos c14] at H
                have c14b0 : decide (x4_2 < (a0.size : Int)) = true := decide_eq_true c14
                clear c14
                by_cases c15 : 0 ≤ x4_2
                · rw [if_pos c15] at H
                  have c15b0 : decide (0 ≤ x4_2) = true := decide_eq_true c15
                  clear c15
                  by_cases c17 : (bt a0 x4_2) = 45
                  · rw [if_pos c17] at H
                    have c17b0 : ((bt a0 x4_2) == 45) = true := beq_iff_eq.mpr c17
                    have c17b1 : ((bt a0 x4_2) != 45) = false := bne_eq_false_iff_eq.mpr c17
                    clear c17
                    by_cases c18 : x3_2.size + 1 ≤ 9223372036854775807
                    · rw [if_pos c18] at H
                      have c18b0 := eq_true c18
                      have c18b1 : decide (x3_2.size + 1 ≤ 9223372036854775807) = true := decide_eq_true c18
                      try have c18b2 : (9223372036854775807 < x3_2.size + 1) = False := eq_false (Nat.not_lt.2 c18)
                      have H' := Aside0.mk H
                      clear H
                      have p16 : 0 ≤ (x4_2 : Int) := of_decide_eq_true (by first | (with_reducible assumption) | assumption)
                      have q16 : x4_2 < (a0.size : Int) := of_decide_eq_true (by first | (with_reducible assumption) | assumption)
                      have hx16 := bt_at a0 x4_2
                      replace p16 := eq_true p16
                      replace q16 := eq_true q16
                      go_wp2
                      go_roundg k2
                      case measure => have := HJ2.out; have := HK2.out; omega
                      case rel => exact ⟨(x3_2 ++ (⟨#[46]⟩ : ByteArray)), (wrap64 (x4_2 + 1)), (by first | rfl | (simp; done) | (simp [*]; done) | (simp [bne_nil_]; done)), (by first | rfl | (simp; done) | (simp [*]; done) | (simp [bne_nil_]; done)), H', ⟨by have := HJ2.out; have := HK2.out; omega⟩, ⟨by repeat (first | (with_reducible first | exact HB.out | apply below_alloc | apply pw_below_drewN | apply below_drew1) | exact HB.out)⟩⟩
                    · rw [if_neg c18] at H
                      exact absurd H (by simp)
                  · rw [if_neg c17] at H
                    have c17b0 : ((bt a0 x4_2) == 45) = false := beq_eq_false_iff_ne.mpr c17
                    have c17b1 : ((bt a0 x4_2) != 45) = true := bne_iff_ne.mpr c17
                    by_cases c19 : (bt a0 x4_2) = 46
                    · rw [if_pos c19] at H
                      have c19b0 : ((bt a0 x4_2) == 46) = true := beq_iff_eq.mpr c19
                      have c19b1 : ((bt a0 x4_2) != 46) = false := bne_eq_false_iff_eq.mpr c19
                      clear c19
                      by_cases c20 : x3_2.size + 1 ≤ 9223372036854775807
                      · rw [if_pos c20] at H
                        have c20b0 := eq_true c20
                        have c20b1 : decide (x3_2.size + 1 ≤ 9223372036854775807) = true := decide_eq_true c20
                        try have c20b2 : (9223372036854775807 < x3_2.size + 1) = False := eq_false (Nat.not_lt.2 c20)
                        have H' := Aside0.mk H
                        clear H
                        have p16 : 0 ≤ (x4_2 : Int) := of_decide_eq_true (by first | (with_reducible assumption) | assumption)
                        have q16 : x4_2 < (a0.size : Int) := of_decide_eq_true (by first | (with_reducible assumption) | assumption)
                        have hx16 := bt_at a0 x4_2
                        replace p16 := eq_true p16
                        replace q16 := eq_true q16
                        go_wp2
                        go_roundg k2
                        case measure => have := HJ2.out; have := HK2.out; omega
                        case rel => exact ⟨(x3_2 ++ (⟨#[45]⟩ : ByteArray)), (wrap64 (x4_2 + 1)), (by first | rfl | (simp; done) | (simp [*]; done) | (simp [bne_nil_]; done)), (by first | rfl | (simp; done) | (simp [*]; done) | (simp [bne_nil_]; done)), H', ⟨by have := HJ2.out; have := HK2.out; omega⟩, ⟨by repeat (first | (with_reducible first | exact HB.out | apply below_alloc | apply pw_below_drewN | apply below_drew1) | exact HB.out)⟩⟩
                      · rw [if_neg c20] at H
                        exact absurd H (by simp)
                    · rw [if_neg c19] at H
                      have c19b0 : ((bt a0 x4_2) == 46) = false := beq_eq_false_iff_ne.mpr c19
                      have c19b1 : ((bt a0 x4_2) != 46) = true := bne_iff_ne.mpr c19
                      have c21b0 := eq_true (of_decide_eq_true (by first | (with_reducible assumption) | assumption) : 0 ≤ x4_2)
                      by_cases c22 : x4_2 ≤ (wrap64 (x4_2 + 1))
                      · rw [if_pos c22] at H
                        have c22b0 := eq_true c22
                        have c22b1 : decide (x4_2 ≤ (wrap64 (x4_2 + 1))) = true := decide_eq_true c22
                        by_cases c23 : (wrap64 (x4_2 + 1)) ≤ (a0.size : Int)
                        · rw [if_pos c23] at H
                          have c23b0 := eq_true c23
                          have c23b1 : decide ((wrap64 (x4_2 + 1)) ≤ (a0.size : Int)) = true := decide_eq_true c23
                          by_cases c24 : x3_2.size + (a0.extract (x4_2 : Int).toNat ((wrap64 (x4_2 + 1)) : Int).toNat).size ≤ 9223372036854775807
                          · rw [if_pos c24] at H
                            have c24b0 := eq_true c24
                            have c24b1 : decide (x3_2.size + (a0.extract (x4_2 : Int).toNat ((wrap64 (x4_2 + 1)) : Int).toNat).size ≤ 9223372036854775807) = true := decide_eq_true c24
                            try have c24b2 : (9223372036854775807 < x3_2.size + (a0.extract (x4_2 : Int).toNat ((wrap64 (x4_2 + 1)) : Int).toNat).size) = False := eq_false (Nat.not_lt.2 c24)
                            (try (have c24bz := c24; simp only [ByteArray.size_extract, Nat.min_self] at c24bz; replace c24bz := eq_true c24bz))
                            have H' := Aside0.mk H
                            clear H
                            have p16 : 0 ≤ (x4_2 : Int) := of_decide_eq_true (by first | (with_reducible assumption) | assumption)
                            have q16 : x4_2 < (a0.size : Int) := of_decide_eq_true (by first | (with_reducible assumption) | assumption)
                            have hx16 := bt_at a0 x4_2
                            replace p16 := eq_true p16
                            replace q16 := eq_true q16
                            go_wp2
                            go_roundg k2
                            case measure => have := HJ2.out; have := HK2.out; omega
                            case rel => exact ⟨(x3_2 ++ (a0.extract (x4_2 : Int).toNat ((wrap64 (x4_2 + 1)) : Int).toNat)), (wrap64 (x4_2 + 1)), (by first | rfl | (simp; done) | (simp [*]; done) | (simp [bne_nil_]; done)), (by first | rfl | (simp; done) | (simp [*]; done) | (simp [bne_nil_]; done)), H', ⟨by have := HJ2.out; have := HK2.out; omega⟩, ⟨by repeat (first | (with_reducible first | exact HB.out | apply below_alloc | apply pw_below_drewN | apply below_drew1) | exact HB.out)⟩⟩
                          · rw [if_neg c24] at H
                            exact absurd H (by simp)
                        · rw [if_neg c23] at H
                          exact absurd H (by simp)
                      · rw [if_neg c22] at H
                        exact absurd H (by simp)
                · rw [if_neg c15] at H
                  exact absurd H (by simp)
              · rw [if_neg c14] at H
                have c14b0 : decide (x4_2 < (a0.size : Int)) = false := decide_eq_false c14
                clear c14
                replace H := Option.bind_eq_some_iff.mp H
                obtain ⟨⟨t120, t121⟩, A250, H⟩ := H
                replace H : ((Giv.impl_CRANParse.f k2 x3_2).bind fun bt124 => (if t121 = true then (laws_FnCRANMarks.j2 k2 a0 x3_2 t120 t121 bt124.1 bt124.2 (!bt124.2)) else (laws_FnCRANMarks.j2 k2 a0 x3_2 t120 t121 bt124.1 bt124.2 true))) = some r := H
                have A25 := Aside0.mk A250
                clear A250
                replace H := Option.bind_eq_some_iff.mp H
                obtain ⟨⟨t124, t125⟩, A260, H⟩ := H
                replace H : (if t121 = true then (laws_FnCRANMarks.j2 k2 a0 x3_2 t120 t121 t124 t125 (!t125)) else (laws_FnCRANMarks.j2 k2 a0 x3_2 t120 t121 t124 t125 true)) = some r := H
                have A26 := Aside0.mk A260
                clear A260
                have HC27 := Aside0.mk H
                clear H
                go_upto_region 17 with (first | ((with_reducible refine gate_callee (f := 45) rfl ?_); refine goesL_ (some 49) rfl rfl Tryd.func45 (by kernel_rfl) rfl #[.string a0] rfl (by (try simp only [List.map_toArray, List.map_cons, List.map_nil]); first | done | rfl | (simp only [List.length_drop, List.length_take]; rfl)) ?_; (with_reducible refine (Giv.impl_CRANParse.calls k2 a0 t120 t121 _ A25.out (HLd.out.below (by repeat (first | (with_reducible first | exact HB.out | apply below_alloc | apply pw_below_drewN | apply below_drew1) | exact HB.out)))).mono ?_); rintro e w28 ⟨v122, rfl, ho0, hb⟩; refine ⟨_, rfl, ?_⟩; have n0_ := Aside0.mk (Kd.R_lower ho0 (below_size (by repeat (first | (with_reducible first | exact HB.out | apply below_alloc | apply pw_below_drewN | apply below_drew1) | exact HB.out)))); have n1_ := Aside0.mk (below_step (by repeat (first | (with_reducible first | exact HB.out | apply below_alloc | apply pw_below_drewN | apply below_drew1) | exact HB.out)) hb); clear HB; have HO123 := n0_; have HB := n1_; clear n0_ n1_; (try clear hb); (try clear hb2); (try clear hk); (try clear hi); (try clear ho0)) | ((with_reducible refine gate_callee (f := 45) rfl ?_); refine goesL_ (some 54) rfl rfl Tryd.func45 (by kernel_rfl) rfl #[.string x3_2] rfl (by (try simp only [List.map_toArray, List.map_cons, List.map_nil]); first | done | rfl | (simp only [List.length_drop, List.length_take]; rfl)) ?_; (with_reducible refine (Giv.impl_CRANParse.calls k2 x3_2 t124 t125 _ A26.out (HLd.out.below (by repeat (first | (with_reducible first | exact HB.out | apply below_alloc | apply pw_below_drewN | apply below_drew1) | exact HB.out)))).mono ?_); rintro e w29 ⟨v126, rfl, ho0, hb⟩; refine ⟨_, rfl, ?_⟩; have n0_ := Aside0.mk (Kd.R_elder' (by (with_reducible repeat (first | apply Kd.R_alloc | apply Kd.R_drewN | apply Kd.R_drew)); exact HO123.out) (Kd.R_base ho0) hb); have n1_ := Aside0.mk (Kd.R_lower (Kd.R_new' ho0 (Kd.R_lt (by (with_reducible repeat (first | apply Kd.R_alloc | apply Kd.R_drewN | apply Kd.R_drew)); exact HO123.out))) (below_size (by repeat (first | (with_reducible first | exact HB.out | apply below_alloc | apply pw_below_drewN | apply below_drew1) | exact HB.out)))); have n2_ := Aside0.mk (below_step (by repeat (first | (with_reducible first | exact HB.out | apply below_alloc | apply pw_below_drewN | apply below_drew1) | exact HB.out)) hb); clear HO123; clear HB; have HO123 := n0_; have HO127 := n1_; have HB := n2_; clear n0_ n1_ n2_; (try clear hb); (try clear hb2); (try clear hk); (try clear hi); (try clear ho0)))
                (try simp only [Act.put, List.setIfInBounds_toArray, List.set_cons_zero, List.set_cons_succ])
                go_cut [62] (fun v62 wc => ∃ (kq : Nat) (x62_26 : Bool), v62 = .bool x62_26 ∧ Aside0 (laws_FnCRANMarks.j2 kq a0 x3_2 t120 t121 t124 t125 x62_26 = some r) ∧ Aside0 (kq ≤ k2) ∧ Aside0 (Kd.R k43 43 wc w.heap.size (fun k_ => some k_ ≠ (v126 : Value).ownBlock) v122 t120) ∧ Aside0 (Kd.R k43 43 wc w.heap.size (fun k_ => some k_ ≠ (v122 : Value).ownBlock) v126 t124) ∧ Aside0 (Below w.heap.size w wc))
                case first =>
                  have H := HC27.out
                  clear HC27
                  by_cases c30 : t121 = true
                  · subst c30
                    have H1 : (laws_FnCRANMarks.j2 k2 a0 x3_2 t120 true t124 t125 (!t125)) = some r := by rw [if_pos rfl] at H; exact H
                    clear H
                    have H := H1
                    clear H1
                    have H' := Aside0.mk H
                    clear H
                    go_wp2
                    go_meet
                    case rel => exact ⟨_, (!t125), (by first | rfl | (simp; done) | (simp [*]; done) | (simp [bne_nil_]; done)), H', ⟨by have := HJ2.out; have := HK2.out; first | omega | exact Nat.le_refl _⟩, ⟨by (with_reducible repeat (first | apply Kd.R_alloc | apply Kd.R_drewN | apply Kd.R_drew)); exact Kd.R_mono HO123.out (fun _ hk => hk.2)⟩, ⟨by (with_reducible repeat (first | apply Kd.R_alloc | apply Kd.R_drewN | apply Kd.R_drew)); exact Kd.R_mono HO127.out (fun _ hk => hk.2)⟩, ⟨by repeat (first | (with_reducible first | exact HB.out | apply below_alloc | apply pw_below_drewN | apply below_drew1) | exact HB.out)⟩⟩
                  · replace c30 := Bool.eq_false_iff.mpr c30
                    subst c30
                    have H1 : (laws_FnCRANMarks.j2 k2 a0 x3_2 t120 false t124 t125 true) = some r := by rw [if_neg (show ¬ (false = true) by decide)] at H; exact H
                    clear H
                    have H := H1
                    clear H1
                    have H' := Aside0.mk H
                    clear H
                    go_wp2
                    go_meet
                    case rel => exact ⟨_, (true), (by first | rfl | (simp; done) | (simp [*]; done) | (simp [bne_nil_]; done)), H', ⟨by have := HJ2.out; have := HK2.out; first | omega | exact Nat.le_refl _⟩, ⟨by (with_reducible repeat (first | apply Kd.R_alloc | apply Kd.R_drewN | apply Kd.R_drew)); exact Kd.R_mono HO123.out (fun _ hk => hk.2)⟩, ⟨by (with_reducible repeat (first | apply Kd.R_alloc | apply Kd.R_drewN | apply Kd.R_drew)); exact Kd.R_mono HO127.out (fun _ hk => hk.2)⟩, ⟨by repeat (first | (with_reducible first | exact HB.out | apply below_alloc | apply pw_below_drewN | apply below_drew1) | exact HB.out)⟩⟩
                case rest =>
                  clear HC27
                  try clear c1
                  try clear p1
                  try clear q1
                  try clear hx1
                  try clear c2
                  try clear c2b0
                  try clear c2b1
                  try clear p2
                  try clear c3
                  try clear c4
                  try clear c5
                  try clear p6
                  try clear c10
                  try clear c13
                  try clear c14
                  try clear c14b0
                  try clear c15
                  try clear c15b0
                  try clear p16
                  try clear q16
                  try clear hx16
                  try clear c17
                  try clear c17b0
                  try clear c17b1
                  try clear c18
                  try clear c18b0
                  try clear c18b1
                  try clear c18b2
                  try clear c19
                  try clear c19b0
                  try clear c19b1
                  try clear c20
                  try clear c20b0
                  try clear c20b1
                  try clear c20b2
                  try clear c21
                  try clear c21b0
                  try clear c22
                  try clear c22b0
                  try clear c22b1
                  try clear c23
                  try clear c23b0
                  try clear c23b1
                  try clear c24
                  try clear c24b0
                  try clear c24b1
                  try clear c24b2
                  try clear c30
                  try clear p16
                  try clear p2
                  try clear q16
                  obtain ⟨kq, x62_26, rfl, HA, HJ26, HO_5, HO_7, HB⟩ := hcut
                  cases kq with
                  | zero => exact absurd HA.out (by simp [laws_FnCRANMarks.j2])
                  | succ kj26 =>
                    have H := HA.out
                    clear HA
                    simp only [laws_FnCRANMarks.j2] at H
                    by_cases c31 : x62_26 = true
                    · subst c31
                      have H1 : (if (t121 == t125) = true then ((laws_cranAwake.f kj26).bind fun t128 => (some t128)) else (some false)) = some r := by rw [if_pos rfl] at H; exact H
                      clear H
                      have H := H1
                      clear H1
                      by_cases c32 : (t121 == t125) = true
                      · rw [if_pos c32] at H
                        have c32b0 : (t121 == t125) = true := c32
                        (try (have c32b1 : decide (t121 = t125) = true := by simpa using c32))
                        (try (have c32b2 : (t121 == t125) = true := by simpa using c32))
                        clear c32
                        replace H := Option.bind_eq_some_iff.mp H
                        obtain ⟨t128, A330, H⟩ := H
                        replace H : (some t128) = some r := H
                        have A33 := Aside0.mk A330
                        clear A330
                        obtain rfl := Option.some.inj H
                        go_wp2_with (first | (go_at_call 46; (with_reducible refine (laws_cranAwake.calls kj26  t128 _ A33.out (HLd.out.below (by repeat (first | (with_reducible first | exact HB.out | apply below_alloc | apply pw_below_drewN | apply below_drew1) | exact HB.out)))).mono ?_); rintro e w34 ⟨rfl, hb⟩; have n0_ := Aside0.mk (Kd.R_below (by (with_reducible repeat (first | apply Kd.R_alloc | apply Kd.R_drewN | apply Kd.R_drew)); exact HO_5.out) hb); have n1_ := Aside0.mk (Kd.R_below (by (with_reducible repeat (first | apply Kd.R_alloc | apply Kd.R_drewN | apply Kd.R_drew)); exact HO_7.out) hb); have n2_ := Aside0.mk (below_step (by repeat (first | (with_reducible first | exact HB.out | apply below_alloc | apply pw_below_drewN | apply below_drew1) | exact HB.out)) hb); clear HO_5; clear HO_7; clear HB; have HO_5 := n0_; have HO_7 := n1_; have HB := n2_; clear n0_ n1_ n2_; (try clear hb); (try clear hb2); (try clear hk); (try clear hi)))
                        go_ret
                        exact ⟨by first | rfl | (simp [errW_none, errW_some] <;> rfl) | (simp [*, errW_none, errW_some] <;> rfl) | (simp [bne_nil_]; done), by repeat (first | (with_reducible first | exact HB.out | apply below_alloc | apply pw_below_drewN | apply below_drew1) | exact HB.out)⟩
                      · rw [if_neg c32] at H
                        have c32b0 : (t121 == t125) = false := by simpa using c32
                        (try (have c32b1 : decide (t121 = t125) = false := by simpa using c32))
                        (try (have c32b2 : (t121 == t125) = false := by simpa using c32))
                        (try (have c32b3 : ¬ (t121 = t125) := by simpa using c32))
                        clear c32
                        obtain rfl := Option.some.inj H
                        go_wp2
                        go_ret
                        exact ⟨by first | rfl | (simp [errW_none, errW_some] <;> rfl) | (simp [*, errW_none, errW_some] <;> rfl) | (simp [bne_nil_]; done), by repeat (first | (with_reducible first | exact HB.out | apply below_alloc | apply pw_below_drewN | apply below_drew1) | exact HB.out)⟩
                    · replace c31 := Bool.eq_false_iff.mpr c31
                      subst c31
                      have H1 : ((Giv.impl_CRANCompare.f kj26 a0 x3_2).bind fun bt129 => ((laws_ints.f kj26 t120 t124).bind fun t131 => (if t131 = true then (if bt129.2 = true then (some (bt129.1 == 0)) else (some false)) else (some false)))) = some r := by rw [if_neg (show ¬ (false = true) by decide)] at H; exact H
                      clear H
                      have H := H1
                      clear H1
                      replace H := Option.bind_eq_some_iff.mp H
                      obtain ⟨⟨t129, t130⟩, A350, H⟩ := H
                      replace H : ((laws_ints.f kj26 t120 t124).bind fun t131 => (if t131 = true then (if t130 = true then (some (t129 == 0)) else (some false)) else (some false))) = some r := H
                      have A35 := Aside0.mk A350
                      clear A350
                      replace H := Option.bind_eq_some_iff.mp H
                      obtain ⟨t131, A360, H⟩ := H
                      replace H : (if t131 = true then (if t130 = true then (some (t129 == 0)) else (some false)) else (some false)) = some r := H
                      have A36 := Aside0.mk A360
                      clear A360
                      by_cases c37 : t131 = true
                      · subst c37
                        have H1 : (if t130 = true then (some (t129 == 0)) else (some false)) = some r := by rw [if_pos rfl] at H; exact H
                        clear H
                        have H := H1
                        clear H1
                        by_cases c38 : t130 = true
                        · subst c38
                          have H1 : (some (t129 == 0)) = some r := by rw [if_pos rfl] at H; exact H
                          clear H
                          have H := H1
                          clear H1
                          obtain rfl := Option.some.inj H
                          go_wp2_with (first | ((with_reducible refine gate_callee (f := 43) rfl ?_); refine goesL_ (some 72) rfl rfl Tryd.func43 (by kernel_rfl) rfl #[.string a0, .string x3_2] rfl (by (try simp only [List.map_toArray, List.map_cons, List.map_nil]); first | done | rfl | (simp only [List.length_drop, List.length_take]; rfl)) ?_; (with_reducible refine (Giv.impl_CRANCompare.calls kj26 a0 x3_2 t129 true _ A35.out (HLd.out.below (by repeat (first | (with_reducible first | exact HB.out | apply below_alloc | apply pw_below_drewN | apply below_drew1) | exact HB.out)))).mono ?_); rintro e w39 ⟨rfl, hb⟩; refine ⟨_, rfl, ?_⟩; have n0_ := Aside0.mk (Kd.R_below (by (with_reducible repeat (first | apply Kd.R_alloc | apply Kd.R_drewN | apply Kd.R_drew)); exact HO_5.out) hb); have n1_ := Aside0.mk (Kd.R_below (by (with_reducible repeat (first | apply Kd.R_alloc | apply Kd.R_drewN | apply Kd.R_drew)); exact HO_7.out) hb); have n2_ := Aside0.mk (below_step (by repeat (first | (with_reducible first | exact HB.out | apply below_alloc | apply pw_below_drewN | apply below_drew1) | exact HB.out)) hb); clear HO_5; clear HO_7; clear HB; have HO_5 := n0_; have HO_7 := n1_; have HB := n2_; clear n0_ n1_ n2_; (try clear hb); (try clear hb2); (try clear hk); (try clear hi); obtain ⟨Ao40, co40, eo40⟩ := Kd.R_slice HO_5.out; subst eo40; obtain ⟨Ao41, co41, eo41⟩ := Kd.R_slice HO_7.out; subst eo41) | ((with_reducible refine gate_callee (f := 47) rfl ?_); refine goesL_ (some 77) rfl rfl Tryd.func47 (by kernel_rfl) rfl #[.slice Ao40 t120.length co40, .slice Ao41 t124.length co41] rfl (by (try simp only [List.map_toArray, List.map_cons, List.map_nil]); first | done | rfl | (simp only [List.length_drop, List.length_take]; rfl)) ?_; (with_reducible refine (laws_ints.calls kj26 _ _ t120 _ _ t124 true _ ?side1 ?side2 ?side3 ?side4 A36.out).mono ?_); (case side1 => repeat (first | exact (Kd.R_reads' HO_5.out).2.2 | (with_reducible refine Kd.C_alloc ?_ _) | (with_reducible refine Kd.C_drewN ?_ _) | (with_reducible refine Kd.C_drew ?_))); (case side2 => exact (Kd.R_reads' HO_5.out).2.1); (case side3 => repeat (first | exact (Kd.R_reads' HO_7.out).2.2 | (with_reducible refine Kd.C_alloc ?_ _) | (with_reducible refine Kd.C_drewN ?_ _) | (with_reducible refine Kd.C_drew ?_))); (case side4 => exact (Kd.R_reads' HO_7.out).2.1); rintro e w' ⟨rfl, ⟨nd, rfl⟩⟩; refine ⟨_, rfl, ?_⟩))
                          go_ret
                          exact ⟨by first | rfl | (simp [errW_none, errW_some] <;> rfl) | (simp [*, errW_none, errW_some] <;> rfl) | (simp [bne_nil_]; done), by repeat (first | (with_reducible first | exact HB.out | apply below_alloc | apply pw_below_drewN | apply below_drew1) | exact HB.out)⟩
                        · replace c38 := Bool.eq_false_iff.mpr c38
                          subst c38
                          have H1 : (some false) = some r := by rw [if_neg (show ¬ (false = true) by decide)] at H; exact H
                          clear H
                          have H := H1
                          clear H1
                          obtain rfl := Option.some.inj H
                          go_wp2_with (first | ((with_reducible refine gate_callee (f := 43) rfl ?_); refine goesL_ (some 72) rfl rfl Tryd.func43 (by kernel_rfl) rfl #[.string a0, .string x3_2] rfl (by (try simp only [List.map_toArray, List.map_cons, List.map_nil]); first | done | rfl | (simp only [List.length_drop, List.length_take]; rfl)) ?_; (with_reducible refine (Giv.impl_CRANCompare.calls kj26 a0 x3_2 t129 false _ A35.out (HLd.out.below (by repeat (first | (with_reducible first | exact HB.out | apply below_alloc | apply pw_below_drewN | apply below_drew1) | exact HB.out)))).mono ?_); rintro e w42 ⟨rfl, hb⟩; refine ⟨_, rfl, ?_⟩; have n0_ := Aside0.mk (Kd.R_below (by (with_reducible repeat (first | apply Kd.R_alloc | apply Kd.R_drewN | apply Kd.R_drew)); exact HO_5.out) hb); have n1_ := Aside0.mk (Kd.R_below (by (with_reducible repeat (first | apply Kd.R_alloc | apply Kd.R_drewN | apply Kd.R_drew)); exact HO_7.out) hb); have n2_ := Aside0.mk (below_step (by repeat (first | (with_reducible first | exact HB.out | apply below_alloc | apply pw_below_drewN | apply below_drew1) | exact HB.out)) hb); clear HO_5; clear HO_7; clear HB; have HO_5 := n0_; have HO_7 := n1_; have HB := n2_; clear n0_ n1_ n2_; (try clear hb); (try clear hb2); (try clear hk); (try clear hi); obtain ⟨Ao43, co43, eo43⟩ := Kd.R_slice HO_5.out; subst eo43; obtain ⟨Ao44, co44, eo44⟩ := Kd.R_slice HO_7.out; subst eo44) | ((with_reducible refine gate_callee (f := 47) rfl ?_); refine goesL_ (some 77) rfl rfl Tryd.func47 (by kernel_rfl) rfl #[.slice Ao43 t120.length co43, .slice Ao44 t124.length co44] rfl (by (try simp only [List.map_toArray, List.map_cons, List.map_nil]); first | done | rfl | (simp only [List.length_drop, List.length_take]; rfl)) ?_; (with_reducible refine (laws_ints.calls kj26 _ _ t120 _ _ t124 true _ ?side1 ?side2 ?side3 ?side4 A36.out).mono ?_); (case side1 => repeat (first | exact (Kd.R_reads' HO_5.out).2.2 | (with_reducible refine Kd.C_alloc ?_ _) | (with_reducible refine Kd.C_drewN ?_ _) | (with_reducible refine Kd.C_drew ?_))); (case side2 => exact (Kd.R_reads' HO_5.out).2.1); (case side3 => repeat (first | exact (Kd.R_reads' HO_7.out).2.2 | (with_reducible refine Kd.C_alloc ?_ _) | (with_reducible refine Kd.C_drewN ?_ _) | (with_reducible refine Kd.C_drew ?_))); (case side4 => exact (Kd.R_reads' HO_7.out).2.1); rintro e w' ⟨rfl, ⟨nd, rfl⟩⟩; refine ⟨_, rfl, ?_⟩))
                          go_ret
                          exact ⟨by first | rfl | (simp [errW_none, errW_some] <;> rfl) | (simp [*, errW_none, errW_some] <;> rfl) | (simp [bne_nil_]; done), by repeat (first | (with_reducible first | exact HB.out | apply below_alloc | apply pw_below_drewN | apply below_drew1) | exact HB.out)⟩
                      · replace c37 := Bool.eq_false_iff.mpr c37
                        subst c37
                        have H1 : (some false) = some r := by rw [if_neg (show ¬ (false = true) by decide)] at H; exact H
                        clear H
                        have H := H1
                        clear H1
                        obtain rfl := Option.some.inj H
                        go_wp2_with (first | ((with_reducible refine gate_callee (f := 43) rfl ?_); refine goesL_ (some 72) rfl rfl Tryd.func43 (by kernel_rfl) rfl #[.string a0, .string x3_2] rfl (by (try simp only [List.map_toArray, List.map_cons, List.map_nil]); first | done | rfl | (simp only [List.length_drop, List.length_take]; rfl)) ?_; (with_reducible refine (Giv.impl_CRANCompare.calls kj26 a0 x3_2 t129 t130 _ A35.out (HLd.out.below (by repeat (first | (with_reducible first | exact HB.out | apply below_alloc | apply pw_below_drewN | apply below_drew1) | exact HB.out)))).mono ?_); rintro e w45 ⟨rfl, hb⟩; refine ⟨_, rfl, ?_⟩; have n0_ := Aside0.mk (Kd.R_below (by (with_reducible repeat (first | apply Kd.R_alloc | apply Kd.R_drewN | apply Kd.R_drew)); exact HO_5.out) hb); have n1_ := Aside0.mk (Kd.R_below (by (with_reducible repeat (first | apply Kd.R_alloc | apply Kd.R_drewN | apply Kd.R_drew)); exact HO_7.out) hb); have n2_ := Aside0.mk (below_step (by repeat (first | (with_reducible first | exact HB.out | apply below_alloc | apply pw_below_drewN | apply below_drew1) | exact HB.out)) hb); clear HO_5; clear HO_7; clear HB; have HO_5 := n0_; have HO_7 := n1_; have HB := n2_; clear n0_ n1_ n2_; (try clear hb); (try clear hb2); (try clear hk); (try clear hi); obtain ⟨Ao46, co46, eo46⟩ := Kd.R_slice HO_5.out; subst eo46; obtain ⟨Ao47, co47, eo47⟩ := Kd.R_slice HO_7.out; subst eo47) | ((with_reducible refine gate_callee (f := 47) rfl ?_); refine goesL_ (some 77) rfl rfl Tryd.func47 (by kernel_rfl) rfl #[.slice Ao46 t120.length co46, .slice Ao47 t124.length co47] rfl (by (try simp only [List.map_toArray, List.map_cons, List.map_nil]); first | done | rfl | (simp only [List.length_drop, List.length_take]; rfl)) ?_; (with_reducible refine (laws_ints.calls kj26 _ _ t120 _ _ t124 false _ ?side1 ?side2 ?side3 ?side4 A36.out).mono ?_); (case side1 => repeat (first | exact (Kd.R_reads' HO_5.out).2.2 | (with_reducible refine Kd.C_alloc ?_ _) | (with_reducible refine Kd.C_drewN ?_ _) | (with_reducible refine Kd.C_drew ?_))); (case side2 => exact (Kd.R_reads' HO_5.out).2.1); (case side3 => repeat (first | exact (Kd.R_reads' HO_7.out).2.2 | (with_reducible refine Kd.C_alloc ?_ _) | (with_reducible refine Kd.C_drewN ?_ _) | (with_reducible refine Kd.C_drew ?_))); (case side4 => exact (Kd.R_reads' HO_7.out).2.1); rintro e w' ⟨rfl, ⟨nd, rfl⟩⟩; refine ⟨_, rfl, ?_⟩))
                        go_ret
                        exact ⟨by first | rfl | (simp [errW_none, errW_some] <;> rfl) | (simp [*, errW_none, errW_some] <;> rfl) | (simp [bne_nil_]; done), by repeat (first | (with_reducible first | exact HB.out | apply below_alloc | apply pw_below_drewN | apply below_drew1) | exact HB.out)⟩

/-- THE ONE PURE STATEMENT of laws_FnCRANMarks: yours. -/
def laws_FnCRANMarks.Pure : Prop := ∀ (a0 : ByteArray), a0.size ≤ 140737488351232 → ∃ k, laws_FnCRANMarks.f k a0 = some true

/-! ### laws_zeroed: function 48 -/
def laws_zeroed.l0 : Nat → ByteArray → ByteArray → Bool → Int → Option (ByteArray)
  | 0, _, _, _, _ => none
  | k + 1, x0, x3, x4, x5 => if x5 < (x0.size : Int) then (if 0 ≤ x5 then (if (bt x0 x5) ≥ 48 then (if (bt x0 x5) ≤ 57 then (if x4 = true then (if x5 ≤ (wrap64 (x5 + 1)) then (if (wrap64 (x5 + 1)) ≤ (x0.size : Int) then (if x3.size + (x0.extract (x5 : Int).toNat ((wrap64 (x5 + 1)) : Int).toNat).size ≤ 9223372036854775807 then (laws_zeroed.l0 k x0 (x3 ++ (x0.extract (x5 : Int).toNat ((wrap64 (x5 + 1)) : Int).toNat)) (decide ((bt x0 x5) ≤ 57)) (wrap64 (x5 + 1))) else (none)) else (none)) else (none)) else (if x3.size + 1 ≤ 9223372036854775807 then (if x5 ≤ (wrap64 (x5 + 1)) then (if (wrap64 (x5 + 1)) ≤ (x0.size : Int) then (if (x3 ++ (⟨#[48]⟩ : ByteArray)).size + (x0.extract (x5 : Int).toNat ((wrap64 (x5 + 1)) : Int).toNat).size ≤ 9223372036854775807 then (laws_zeroed.l0 k x0 ((x3 ++ (⟨#[48]⟩ : ByteArray)) ++ (x0.extract (x5 : Int).toNat ((wrap64 (x5 + 1)) : Int).toNat)) (decide ((bt x0 x5) ≤ 57)) (wrap64 (x5 + 1))) else (none)) else (none)) else (none)) else (none))) else (if x5 ≤ (wrap64 (x5 + 1)) then (if (wrap64 (x5 + 1)) ≤ (x0.size : Int) then (if x3.size + (x0.extract (x5 : Int).toNat ((wrap64 (x5 + 1)) : Int).toNat).size ≤ 9223372036854775807 then (laws_zeroed.l0 k x0 (x3 ++ (x0.extract (x5 : Int).toNat ((wrap64 (x5 + 1)) : Int).toNat)) (decide ((bt x0 x5) ≤ 57)) (wrap64 (x5 + 1))) else (none)) else (none)) else (none))) else (if x5 ≤ (wrap64 (x5 + 1)) then (if (wrap64 (x5 + 1)) ≤ (x0.size : Int) then (if x3.size + (x0.extract (x5 : Int).toNat ((wrap64 (x5 + 1)) : Int).toNat).size ≤ 9223372036854775807 then (laws_zeroed.l0 k x0 (x3 ++ (x0.extract (x5 : Int).toNat ((wrap64 (x5 + 1)) : Int).toNat)) false (wrap64 (x5 + 1))) else (none)) else (none)) else (none))) else (none)) else (some x3)
def laws_zeroed.f (k : Nat) (a0 : ByteArray) : Option (ByteArray) := laws_zeroed.l0 k a0 (⟨#[]⟩ : ByteArray) false 0
theorem laws_zeroed.mono_l : ∀ k, (∀ y0 y1 y2 y3, LeO (laws_zeroed.l0 k y0 y1 y2 y3) (laws_zeroed.l0 (k + 1) y0 y1 y2 y3))
  | 0 => fun _ _ _ _ r h => by simp [laws_zeroed.l0] at h
  | k + 1 => by
    have ih0 := laws_zeroed.mono_l k
    · intro y0 y1 y2 y3
      unfold laws_zeroed.l0
      repeat' first
      | (with_reducible exact ih0 _ _ _ _)
      | (with_reducible exact LeO.refl _)
      | (with_reducible exact LeO.none _)
      | (with_reducible refine LeO.ite ?_ ?_)
      | (with_reducible refine LeO.bind ?_ (fun _ => ?_))
      | exact ih0 _ _ _ _
      | exact LeO.none _
      | refine LeO.ite ?_ ?_
      | refine LeO.bind ?_ (fun _ => ?_)
theorem laws_zeroed.mono : ∀ a0 k, LeO (laws_zeroed.f k a0) (laws_zeroed.f (k + 1) a0) := by
  intro a0 k
  have ih0 := laws_zeroed.mono_l k
  unfold laws_zeroed.f
  repeat' first
      | (with_reducible exact ih0 _ _ _ _)
      | (with_reducible exact LeO.refl _)
      | (with_reducible exact LeO.none _)
      | (with_reducible refine LeO.ite ?_ ?_)
      | (with_reducible refine LeO.bind ?_ (fun _ => ?_))
      | exact ih0 _ _ _ _
      | exact LeO.none _
      | refine LeO.ite ?_ ?_
      | refine LeO.bind ?_ (fun _ => ?_)
set_option maxHeartbeats 8000000 in
set_option maxRecDepth 100000 in
theorem laws_zeroed.calls (k : Nat) (a0 : ByteArray) (r : ByteArray) (w : World) (h : laws_zeroed.f k a0 = some r) :
    Calls Tryd.prog 48 #[.string a0] w fun e w' => e = .returned (.string r) ∧ Drawn0 w w' := by
  have H : (laws_zeroed.l0 k a0 (⟨#[]⟩ : ByteArray) false 0) = some r := h
  clear h
  have H' := Aside0.mk H
  clear H
  go_enter Tryd.func48, Tryd.ntmps48
  go_wp2
  go_loopg [3, 4, 5] k (fun kq v3 v4 v5 w' => ∃ (x3_1 : ByteArray) (x4_1 : Bool) (x5_1 : Int), v3 = .string x3_1 ∧ v4 = .bool x4_1 ∧ v5 = .int .i64 x5_1 ∧ Aside0 (laws_zeroed.l0 kq a0 x3_1 x4_1 x5_1 = some r) ∧ Aside0 (kq ≤ k) ∧ Drawn0 w w')
  case atStart => exact ⟨((⟨#[]⟩ : ByteArray)), (false), (0), (by first | rfl | (simp; done) | (simp [*]; done) | (simp [bne_nil_]; done)), (by first | rfl | (simp; done) | (simp [*]; done) | (simp [bne_nil_]; done)), (by first | rfl | (simp; done) | (simp [*]; done) | (simp [bne_nil_]; done)), H', ⟨Nat.le_refl _⟩, by repeat (first | exact Drawn0.refl _ | apply Drawn0.step)⟩
  case round =>
    clear H'
    obtain ⟨x3_1, x4_1, x5_1, rfl, rfl, rfl, HA, HK1, ⟨m1, rfl⟩⟩ := hrel
    cases gk with
    | zero => exact absurd HA.out (by simp [laws_zeroed.l0])
    | succ k1 =>
      have H := HA.out
      clear HA
      simp only [laws_zeroed.l0] at H
      by_cases c2 : x5_1 < (a0.size : Int)
      · rw [if_pos c2] at H
        have c2b0 : decide (x5_1 < (a0.size : Int)) = true := decide_eq_true c2
        clear c2
        by_cases c3 : 0 ≤ x5_1
        · rw [if_pos c3] at H
          have c3b0 : decide (0 ≤ x5_1) = true := decide_eq_true c3
          clear c3
          by_cases c5 : (bt a0 x5_1) ≥ 48
          · rw [if_pos c5] at H
            have c5b0 : decide (48 ≤ (bt a0 x5_1)) = true := decide_eq_true c5
            clear c5
            by_cases c7 : (bt a0 x5_1) ≤ 57
            · rw [if_pos c7] at H
              have c7b0 : decide ((bt a0 x5_1) ≤ 57) = true := decide_eq_true c7
              clear c7
              by_cases c8 : x4_1 = true
              · subst c8
                have H1 : (if x5_1 ≤ (wrap64 (x5_1 + 1)) then (if (wrap64 (x5_1 + 1)) ≤ (a0.size : Int) then (if x3_1.size + (a0.extract (x5_1 : Int).toNat ((wrap64 (x5_1 + 1)) : Int).toNat).size ≤ 9223372036854775807 then (laws_zeroed.l0 k1 a0 (x3_1 ++ (a0.extract (x5_1 : Int).toNat ((wrap64 (x5_1 + 1)) : Int).toNat)) (decide ((bt a0 x5_1) ≤ 57)) (wrap64 (x5_1 + 1))) else (none)) else (none)) else (none)) = some r := by rw [if_pos rfl] at H; exact H
                clear H
                have H := H1
                clear H1
                have c9b0 := eq_true (of_decide_eq_true (by first | (with_reducible assumption) | assumption) : 0 ≤ x5_1)
                by_cases c10 : x5_1 ≤ (wrap64 (x5_1 + 1))
                · rw [if_pos c10] at H
                  have c10b0 := eq_true c10
                  have c10b1 : decide (x5_1 ≤ (wrap64 (x5_1 + 1))) = true := decide_eq_true c10
                  by_cases c11 : (wrap64 (x5_1 + 1)) ≤ (a0.size : Int)
                  · rw [if_pos c11] at H
                    have c11b0 := eq_true c11
                    have c11b1 : decide ((wrap64 (x5_1 + 1)) ≤ (a0.size : Int)) = true := decide_eq_true c11
                    by_cases c12 : x3_1.size + (a0.extract (x5_1 : Int).toNat ((wrap64 (x5_1 + 1)) : Int).toNat).size ≤ 9223372036854775807
                    · rw [if_pos c12] at H
                      have c12b0 := eq_true c12
                      have c12b1 : decide (x3_1.size + (a0.extract (x5_1 : Int).toNat ((wrap64 (x5_1 + 1)) : Int).toNat).size ≤ 9223372036854775807) = true := decide_eq_true c12
                      try have c12b2 : (9223372036854775807 < x3_1.size + (a0.extract (x5_1 : Int).toNat ((wrap64 (x5_1 + 1)) : Int).toNat).size) = False := eq_false (Nat.not_lt.2 c12)
                      (try (have c12bz := c12; simp only [ByteArray.size_extract, Nat.min_self] at c12bz; replace c12bz := eq_true c12bz))
                      have H' := Aside0.mk H
                      clear H
                      have p4 : 0 ≤ (x5_1 : Int) := of_decide_eq_true (by first | (with_reducible assumption) | assumption)
                      have q4 : x5_1 < (a0.size : Int) := of_decide_eq_true (by first | (with_reducible assumption) | assumption)
                      have hx4 := bt_at a0 x5_1
                      replace p4 := eq_true p4
                      replace q4 := eq_true q4
                      have p6 : 0 ≤ (x5_1 : Int) := of_decide_eq_true (by first | (with_reducible assumption) | assumption)
                      have q6 : x5_1 < (a0.size : Int) := of_decide_eq_true (by first | (with_reducible assumption) | assumption)
                      have hx6 := bt_at a0 x5_1
                      replace p6 := eq_true p6
                      replace q6 := eq_true q6
                      go_wp2
                      go_roundg k1
                      case measure => have := HK1.out; omega
                      case rel => exact ⟨(x3_1 ++ (a0.extract (x5_1 : Int).toNat ((wrap64 (x5_1 + 1)) : Int).toNat)), (decide ((bt a0 x5_1) ≤ 57)), (wrap64 (x5_1 + 1)), (by first | rfl | (simp; done) | (simp [*]; done) | (simp [bne_nil_]; done)), (by first | rfl | (simp; done) | (simp [*]; done) | (simp [bne_nil_]; done)), (by first | rfl | (simp; done) | (simp [*]; done) | (simp [bne_nil_]; done)), H', ⟨by have := HK1.out; omega⟩, by repeat (first | exact Drawn0.refl _ | apply Drawn0.step)⟩
                    · rw [if_neg c12] at H
                      exact absurd H (by simp)
                  · rw [if_neg c11] at H
                    exact absurd H (by simp)
                · rw [if_neg c10] at H
                  exact absurd H (by simp)
              · replace c8 := Bool.eq_false_iff.mpr c8
                subst c8
                have H1 : (if x3_1.size + 1 ≤ 9223372036854775807 then (if x5_1 ≤ (wrap64 (x5_1 + 1)) then (if (wrap64 (x5_1 + 1)) ≤ (a0.size : Int) then (if (x3_1 ++ (⟨#[48]⟩ : ByteArray)).size + (a0.extract (x5_1 : Int).toNat ((wrap64 (x5_1 + 1)) : Int).toNat).size ≤ 9223372036854775807 then (laws_zeroed.l0 k1 a0 ((x3_1 ++ (⟨#[48]⟩ : ByteArray)) ++ (a0.extract (x5_1 : Int).toNat ((wrap64 (x5_1 + 1)) : Int).toNat)) (decide ((bt a0 x5_1) ≤ 57)) (wrap64 (x5_1 + 1))) else (none)) else (none)) else (none)) else (none)) = some r := by rw [if_neg (show ¬ (false = true) by decide)] at H; exact H
                clear H
                have H := H1
                clear H1
                by_cases c13 : x3_1.size + 1 ≤ 9223372036854775807
                · rw [if_pos c13] at H
                  have c13b0 := eq_true c13
                  have c13b1 : decide (x3_1.size + 1 ≤ 9223372036854775807) = true := decide_eq_true c13
                  try have c13b2 : (9223372036854775807 < x3_1.size + 1) = False := eq_false (Nat.not_lt.2 c13)
                  have c14b0 := eq_true (of_decide_eq_true (by first | (with_reducible assumption) | assumption) : 0 ≤ x5_1)
                  by_cases c15 : x5_1 ≤ (wrap64 (x5_1 + 1))
                  · rw [if_pos c15] at H
                    have c15b0 := eq_true c15
                    have c15b1 : decide (x5_1 ≤ (wrap64 (x5_1 + 1))) = true := decide_eq_true c15
                    by_cases c16 : (wrap64 (x5_1 + 1)) ≤ (a0.size : Int)
                    · rw [if_pos c16] at H
                      have c16b0 := eq_true c16
                      have c16b1 : decide ((wrap64 (x5_1 + 1)) ≤ (a0.size : Int)) = true := decide_eq_true c16
                      by_cases c17 : (x3_1 ++ (⟨#[48]⟩ : ByteArray)).size + (a0.extract (x5_1 : Int).toNat ((wrap64 (x5_1 + 1)) : Int).toNat).size ≤ 9223372036854775807
                      · rw [if_pos c17] at H
                        have c17b0 := eq_true c17
                        have c17b1 : decide ((x3_1 ++ (⟨#[48]⟩ : ByteArray)).size + (a0.extract (x5_1 : Int).toNat ((wrap64 (x5_1 + 1)) : Int).toNat).size ≤ 9223372036854775807) = true := decide_eq_true c17
                        try have c17b2 : (9223372036854775807 < (x3_1 ++ (⟨#[48]⟩ : ByteArray)).size + (a0.extract (x5_1 : Int).toNat ((wrap64 (x5_1 + 1)) : Int).toNat).size) = False := eq_false (Nat.not_lt.2 c17)
                        (try (have c17bx : x3_1.size + 1 + (a0.extract (x5_1 : Int).toNat ((wrap64 (x5_1 + 1)) : Int).toNat).size ≤ 9223372036854775807 := by (have h_ := c17; simp only [ByteArray.size_append] at h_; exact h_)))
                        (try (have c17by := eq_false (Nat.not_lt.2 c17bx)))
                        (try (have c17bz := c17; simp only [ByteArray.size_extract, Nat.min_self] at c17bz; replace c17bz := eq_true c17bz))
                        have H' := Aside0.mk H
                        clear H
                        have p4 : 0 ≤ (x5_1 : Int) := of_decide_eq_true (by first | (with_reducible assumption) | assumption)
                        have q4 : x5_1 < (a0.size : Int) := of_decide_eq_true (by first | (with_reducible assumption) | assumption)
                        have hx4 := bt_at a0 x5_1
                        replace p4 := eq_true p4
                        replace q4 := eq_true q4
                        have p6 : 0 ≤ (x5_1 : Int) := of_decide_eq_true (by first | (with_reducible assumption) | assumption)
                        have q6 : x5_1 < (a0.size : Int) := of_decide_eq_true (by first | (with_reducible assumption) | assumption)
                        have hx6 := bt_at a0 x5_1
                        replace p6 := eq_true p6
                        replace q6 := eq_true q6
                        go_wp2
                        go_roundg k1
                        case measure => have := HK1.out; omega
                        case rel => exact ⟨((x3_1 ++ (⟨#[48]⟩ : ByteArray)) ++ (a0.extract (x5_1 : Int).toNat ((wrap64 (x5_1 + 1)) : Int).toNat)), (decide ((bt a0 x5_1) ≤ 57)), (wrap64 (x5_1 + 1)), (by first | rfl | (simp; done) | (simp [*]; done) | (simp [bne_nil_]; done)), (by first | rfl | (simp; done) | (simp [*]; done) | (simp [bne_nil_]; done)), (by first | rfl | (simp; done) | (simp [*]; done) | (simp [bne_nil_]; done)), H', ⟨by have := HK1.out; omega⟩, by repeat (first | exact Drawn0.refl _ | apply Drawn0.step)⟩
                      · rw [if_neg c17] at H
                        exact absurd H (by simp)
                    · rw [if_neg c16] at H
                      exact absurd H (by simp)
                  · rw [if_neg c15] at H
                    exact absurd H (by simp)
                · rw [if_neg c13] at H
                  exact absurd H (by simp)
            · rw [if_neg c7] at H
              have c7b0 : decide ((bt a0 x5_1) ≤ 57) = false := decide_eq_false c7
              clear c7
              have c18b0 := eq_true (of_decide_eq_true (by first | (with_reducible assumption) | assumption) : 0 ≤ x5_1)
              by_cases c19 : x5_1 ≤ (wrap64 (x5_1 + 1))
              · rw [if_pos c19] at H
                have c19b0 := eq_true c19
                have c19b1 : decide (x5_1 ≤ (wrap64 (x5_1 + 1))) = true := decide_eq_true c19
                by_cases c20 : (wrap64 (x5_1 + 1)) ≤ (a0.size : Int)
                · rw [if_pos c20] at H
                  have c20b0 := eq_true c20
                  have c20b1 : decide ((wrap64 (x5_1 + 1)) ≤ (a0.size : Int)) = true := decide_eq_true c20
                  by_cases c21 : x3_1.size + (a0.extract (x5_1 : Int).toNat ((wrap64 (x5_1 + 1)) : Int).toNat).size ≤ 9223372036854775807
                  · rw [if_pos c21] at H
                    have c21b0 := eq_true c21
                    have c21b1 : decide (x3_1.size + (a0.extract (x5_1 : Int).toNat ((wrap64 (x5_1 + 1)) : Int).toNat).size ≤ 9223372036854775807) = true := decide_eq_true c21
                    try have c21b2 : (9223372036854775807 < x3_1.size + (a0.extract (x5_1 : Int).toNat ((wrap64 (x5_1 + 1)) : Int).toNat).size) = False := eq_false (Nat.not_lt.2 c21)
                    (try (have c21bz := c21; simp only [ByteArray.size_extract, Nat.min_self] at c21bz; replace c21bz := eq_true c21bz))
                    have H' := Aside0.mk H
                    clear H
                    have p4 : 0 ≤ (x5_1 : Int) := of_decide_eq_true (by first | (with_reducible assumption) | assumption)
                    have q4 : x5_1 < (a0.size : Int) := of_decide_eq_true (by first | (with_reducible assumption) | assumption)
                    have hx4 := bt_at a0 x5_1
                    replace p4 := eq_true p4
                    replace q4 := eq_true q4
                    have p6 : 0 ≤ (x5_1 : Int) := of_decide_eq_true (by first | (with_reducible assumption) | assumption)
                    have q6 : x5_1 < (a0.size : Int) := of_decide_eq_true (by first | (with_reducible assumption) | assumption)
                    have hx6 := bt_at a0 x5_1
                    replace p6 := eq_true p6
                    replace q6 := eq_true q6
                    go_wp2
                    go_roundg k1
                    case measure => have := HK1.out; omega
                    case rel => exact ⟨(x3_1 ++ (a0.extract (x5_1 : Int).toNat ((wrap64 (x5_1 + 1)) : Int).toNat)), (decide ((bt a0 x5_1) ≤ 57)), (wrap64 (x5_1 + 1)), (by first | rfl | (simp; done) | (simp [*]; done) | (simp [bne_nil_]; done)), (by first | rfl | (simp; done) | (simp [*]; done) | (simp [bne_nil_]; done)), (by first | rfl | (simp; done) | (simp [*]; done) | (simp [bne_nil_]; done)), H', ⟨by have := HK1.out; omega⟩, by repeat (first | exact Drawn0.refl _ | apply Drawn0.step)⟩
                  · rw [if_neg c21] at H
                    exact absurd H (by simp)
                · rw [if_neg c20] at H
                  exact absurd H (by simp)
              · rw [if_neg c19] at H
                exact absurd H (by simp)
          · rw [if_neg c5] at H
            have c5b0 : decide (48 ≤ (bt a0 x5_1)) = false := decide_eq_false c5
            clear c5
            have c22b0 := eq_true (of_decide_eq_true (by first | (with_reducible assumption) | assumption) : 0 ≤ x5_1)
            by_cases c23 : x5_1 ≤ (wrap64 (x5_1 + 1))
            · rw [if_pos c23] at H
              have c23b0 := eq_true c23
              have c23b1 : decide (x5_1 ≤ (wrap64 (x5_1 + 1))) = true := decide_eq_true c23
              by_cases c24 : (wrap64 (x5_1 + 1)) ≤ (a0.size : Int)
              · rw [if_pos c24] at H
                have c24b0 := eq_true c24
                have c24b1 : decide ((wrap64 (x5_1 + 1)) ≤ (a0.size : Int)) = true := decide_eq_true c24
                by_cases c25 : x3_1.size + (a0.extract (x5_1 : Int).toNat ((wrap64 (x5_1 + 1)) : Int).toNat).size ≤ 9223372036854775807
                · rw [if_pos c25] at H
                  have c25b0 := eq_true c25
                  have c25b1 : decide (x3_1.size + (a0.extract (x5_1 : Int).toNat ((wrap64 (x5_1 + 1)) : Int).toNat).size ≤ 9223372036854775807) = true := decide_eq_true c25
                  try have c25b2 : (9223372036854775807 < x3_1.size + (a0.extract (x5_1 : Int).toNat ((wrap64 (x5_1 + 1)) : Int).toNat).size) = False := eq_false (Nat.not_lt.2 c25)
                  (try (have c25bz := c25; simp only [ByteArray.size_extract, Nat.min_self] at c25bz; replace c25bz := eq_true c25bz))
                  have H' := Aside0.mk H
                  clear H
                  have p4 : 0 ≤ (x5_1 : Int) := of_decide_eq_true (by first | (with_reducible assumption) | assumption)
                  have q4 : x5_1 < (a0.size : Int) := of_decide_eq_true (by first | (with_reducible assumption) | assumption)
                  have hx4 := bt_at a0 x5_1
                  replace p4 := eq_true p4
                  replace q4 := eq_true q4
                  go_wp2
                  go_roundg k1
                  case measure => have := HK1.out; omega
                  case rel => exact ⟨(x3_1 ++ (a0.extract (x5_1 : Int).toNat ((wrap64 (x5_1 + 1)) : Int).toNat)), (false), (wrap64 (x5_1 + 1)), (by first | rfl | (simp; done) | (simp [*]; done) | (simp [bne_nil_]; done)), (by first | rfl | (simp; done) | (simp [*]; done) | (simp [bne_nil_]; done)), (by first | rfl | (simp; done) | (simp [*]; done) | (simp [bne_nil_]; done)), H', ⟨by have := HK1.out; omega⟩, by repeat (first | exact Drawn0.refl _ | apply Drawn0.step)⟩
                · rw [if_neg c25] at H
                  exact absurd H (by simp)
              · rw [if_neg c24] at H
                exact absurd H (by simp)
            · rw [if_neg c23] at H
              exact absurd H (by simp)
        · rw [if_neg c3] at H
          exact absurd H (by simp)
      · rw [if_neg c2] at H
        have c2b0 : decide (x5_1 < (a0.size : Int)) = false := decide_eq_false c2
        clear c2
        obtain rfl := Option.some.inj H
        go_wp2
        go_ret
        exact ⟨by first | rfl | (simp; done) | (simp [*]; done) | (simp [bne_nil_]; done), by repeat (first | exact Drawn0.refl _ | apply Drawn0.step)⟩

/-! ### laws_FnCRANZeros: function 11 -/
def laws_FnCRANZeros.j0 : Nat → ByteArray → Bool → Option (Bool)
  | 0, _, _ => none
  | k + 1, x0, x18 => if x18 = true then (some true) else ((Giv.impl_CRANParse.f k x0).bind fun bt137 => ((laws_zeroed.f k x0).bind fun t141 => ((Giv.impl_CRANParse.f k t141).bind fun bt142 => ((laws_cranAwake.f k).bind fun t146 => (if t146 = true then (if (bt137.2 == bt142.2) = true then ((laws_ints.f k bt137.1 bt142.1).bind fun t147 => (some t147)) else (some false)) else (some false))))))
def laws_FnCRANZeros.f (k : Nat) (a0 : ByteArray) : Option (Bool) := if (a0.size : Int) > 2147483647 then (some true) else ((laws_short.f k (([a0] : List ByteArray))).bind fun t135 => (if t135 = true then ((laws_plain.f k a0 (⟨#[46, 45]⟩ : ByteArray)).bind fun t136 => (laws_FnCRANZeros.j0 k a0 (!t136))) else (laws_FnCRANZeros.j0 k a0 true)))
theorem laws_FnCRANZeros.mono_l : ∀ k, (∀ y0 y1, LeO (laws_FnCRANZeros.j0 k y0 y1) (laws_FnCRANZeros.j0 (k + 1) y0 y1))
  | 0 => fun _ _ r h => by simp [laws_FnCRANZeros.j0] at h
  | k + 1 => by
    have ih0 := laws_FnCRANZeros.mono_l k
    · intro y0 y1
      unfold laws_FnCRANZeros.j0
      repeat' first
      | (with_reducible exact ih0 _ _)
      | (with_reducible exact Giv.impl_CRANParse.mono _ _)
      | (with_reducible exact laws_cranAwake.mono _)
      | (with_reducible exact laws_ints.mono _ _ _)
      | (with_reducible exact laws_plain.mono _ _ _)
      | (with_reducible exact laws_short.mono _ _)
      | (with_reducible exact laws_zeroed.mono _ _)
      | (with_reducible exact LeO.refl _)
      | (with_reducible exact LeO.none _)
      | (with_reducible refine LeO.ite ?_ ?_)
      | (with_reducible refine LeO.bind ?_ (fun _ => ?_))
      | exact ih0 _ _
      | exact Giv.impl_CRANParse.mono _ _
      | exact laws_cranAwake.mono _
      | exact laws_ints.mono _ _ _
      | exact laws_plain.mono _ _ _
      | exact laws_short.mono _ _
      | exact laws_zeroed.mono _ _
      | exact LeO.none _
      | refine LeO.ite ?_ ?_
      | refine LeO.bind ?_ (fun _ => ?_)
theorem laws_FnCRANZeros.mono : ∀ a0 k, LeO (laws_FnCRANZeros.f k a0) (laws_FnCRANZeros.f (k + 1) a0) := by
  intro a0 k
  have ih0 := laws_FnCRANZeros.mono_l k
  unfold laws_FnCRANZeros.f
  repeat' first
      | (with_reducible exact ih0 _ _)
      | (with_reducible exact Giv.impl_CRANParse.mono _ _)
      | (with_reducible exact laws_cranAwake.mono _)
      | (with_reducible exact laws_ints.mono _ _ _)
      | (with_reducible exact laws_plain.mono _ _ _)
      | (with_reducible exact laws_short.mono _ _)
      | (with_reducible exact laws_zeroed.mono _ _)
      | (with_reducible exact LeO.refl _)
      | (with_reducible exact LeO.none _)
      | (with_reducible refine LeO.ite ?_ ?_)
      | (with_reducible refine LeO.bind ?_ (fun _ => ?_))
      | exact ih0 _ _
      | exact Giv.impl_CRANParse.mono _ _
      | exact laws_cranAwake.mono _
      | exact laws_ints.mono _ _ _
      | exact laws_plain.mono _ _ _
      | exact laws_short.mono _ _
      | exact laws_zeroed.mono _ _
      | exact LeO.none _
      | refine LeO.ite ?_ ?_
      | refine LeO.bind ?_ (fun _ => ?_)
set_option maxHeartbeats 8000000 in
set_option maxRecDepth 100000 in
theorem laws_FnCRANZeros.calls (k : Nat) (a0 : ByteArray) (r : Bool) (w : World) (h : laws_FnCRANZeros.f k a0 = some r) (hL : Giv.Laid w) :
    Calls Tryd.prog 11 #[.string a0] w fun e w' => e = .returned (.bool r) ∧ Below w.heap.size w w' := by
  have HLd := Aside0.mk hL
  clear hL
  have HB := Aside0.mk (Below.refl w.heap.size w)
  have H : (if (a0.size : Int) > 2147483647 then (some true) else ((laws_short.f k (([a0] : List ByteArray))).bind fun t135 => (if t135 = true then ((laws_plain.f k a0 (⟨#[46, 45]⟩ : ByteArray)).bind fun t136 => (laws_FnCRANZeros.j0 k a0 (!t136))) else (laws_FnCRANZeros.j0 k a0 true)))) = some r := h
  clear h
  by_cases c2 : (a0.size : Int) > 2147483647
  · rw [if_pos c2] at H
    have c2b0 : decide (2147483647 < (a0.size : Int)) = true := decide_eq_true c2
    have c2b1 : decide (2147483647 < a0.size) = true := decide_eq_true (by omega)
    clear c2
    obtain rfl := Option.some.inj H
    go_enter Tryd.func11, Tryd.ntmps11
    go_wp2
    go_ret
    exact ⟨by first | rfl | (simp [errW_none, errW_some] <;> rfl) | (simp [*, errW_none, errW_some] <;> rfl) | (simp [bne_nil_]; done), by repeat (first | (with_reducible first | exact HB.out | apply below_alloc | apply pw_below_drewN | apply below_drew1) | exact HB.out)⟩
  · rw [if_neg c2] at H
    have c2b0 : decide (2147483647 < (a0.size : Int)) = false := decide_eq_false c2
    have c2b1 : decide (2147483647 < a0.size) = false := decide_eq_false (by omega)
    clear c2
    have HC3 := Aside0.mk H
    clear H
    go_enter Tryd.func11, Tryd.ntmps11
    go_upto_region 3 with (fail)
    go_cut [18] (fun v18 wc => ∃ (kq : Nat) (x18_2 : Bool), v18 = .bool x18_2 ∧ Aside0 (laws_FnCRANZeros.j0 kq a0 x18_2 = some r) ∧ Aside0 (kq ≤ k) ∧ Aside0 (Below w.heap.size w wc))
    case first =>
      have H := HC3.out
      clear HC3
      obtain ⟨y132, hy132⟩ : ∃ y_ : List ByteArray, y_ = (([a0] : List ByteArray)) := ⟨_, rfl⟩
      replace H : ((laws_short.f k y132).bind fun t135 => (if t135 = true then ((laws_plain.f k a0 (⟨#[46, 45]⟩ : ByteArray)).bind fun t136 => (laws_FnCRANZeros.j0 k a0 (!t136))) else (laws_FnCRANZeros.j0 k a0 true))) = some r := by first | (rw [hy132]; with_reducible exact H) | (have H2_ := (Option.bind_some _ _).symm.trans H; rw [hy132]; with_reducible exact H2_) | (have H2_ := (Option.bind_some _ _).symm.trans H; with_reducible exact H2_) | with_reducible exact H | (rw [hy132]; exact H) | exact H
      have Ny132 := Aside0.mk hy132
      clear hy132
      replace H := Option.bind_eq_some_iff.mp H
      obtain ⟨t135, A40, H⟩ := H
      replace H : (if t135 = true then ((laws_plain.f k a0 (⟨#[46, 45]⟩ : ByteArray)).bind fun t136 => (laws_FnCRANZeros.j0 k a0 (!t136))) else (laws_FnCRANZeros.j0 k a0 true)) = some r := H
      have A4 := Aside0.mk A40
      clear A40
      by_cases c5 : t135 = true
      · subst c5
        have H1 : ((laws_plain.f k a0 (⟨#[46, 45]⟩ : ByteArray)).bind fun t136 => (laws_FnCRANZeros.j0 k a0 (!t136))) = some r := by rw [if_pos rfl] at H; exact H
        clear H
        have H := H1
        clear H1
        replace H := Option.bind_eq_some_iff.mp H
        obtain ⟨t136, A60, H⟩ := H
        replace H : (laws_FnCRANZeros.j0 k a0 (!t136)) = some r := H
        have A6 := Aside0.mk A60
        clear A60
        have H' := Aside0.mk H
        clear H
        go_wp2_with (first | ((with_reducible refine gate_dst (N := 11) rfl ?_); refine Kd.R_lit Kd.string _ 9 ?hg (N := 11) ?hd (xs := ([a0] : List ByteArray)) (inner := [.string a0]) (ok := fun _ => True) (okp := fun _ => True) ?hr ?hp (fun _ hk => hk) trivial (Below.refl _ _) (Nat.le_refl _) (by simp) ?_; (case hd => rfl); (case hg => rfl); (case hr => first | (go_simp; done) | (go_simp; rfl)); (case hp => exact (Reps.one (show Kd.M Kd.string _ _ _ a0 [.string a0] from rfl) (Reps.none _ _))); intro v133 w7 ho8 hb hg_ hnew_; clear hg_ hnew_; (first | rw [← Ny132.out] at ho8 | (simp only [Int.reduceToNat] at ho8; rw [← Ny132.out] at ho8)); have n0_ := Aside0.mk (Kd.R_lower ho8 (below_size (by repeat (first | (with_reducible first | exact HB.out | apply below_alloc | apply pw_below_drewN | apply below_drew1) | exact HB.out)))); have n1_ := Aside0.mk (below_step (by repeat (first | (with_reducible first | exact HB.out | apply below_alloc | apply pw_below_drewN | apply below_drew1) | exact HB.out)) hb); clear HB; have HO134 := n0_; have HB := n1_; clear n0_ n1_; clear hb ho8; obtain ⟨Ao9, co9, eo9⟩ := Kd.R_slice HO134.out; subst eo9) | ((with_reducible refine gate_callee (f := 15) rfl ?_); refine goesL_ (some 12) rfl rfl Tryd.func15 (by kernel_rfl) rfl #[.slice Ao9 y132.length co9] rfl (by (try simp only [List.map_toArray, List.map_cons, List.map_nil]); first | done | rfl | (simp only [List.length_drop, List.length_take]; rfl)) ?_; (with_reducible refine (laws_short.calls k _ _ y132 true _ ?side1 ?side2 A4.out).mono ?_); (case side1 => repeat (first | exact (Kd.R_reads' HO134.out).2.2 | (with_reducible refine Kd.C_alloc ?_ _) | (with_reducible refine Kd.C_drewN ?_ _) | (with_reducible refine Kd.C_drew ?_))); (case side2 => exact (Kd.R_reads' HO134.out).2.1); rintro e w' ⟨rfl, ⟨nd, rfl⟩⟩; refine ⟨_, rfl, ?_⟩) | (go_at_call 28; (with_reducible refine (laws_plain.calls k a0 (⟨#[46, 45]⟩ : ByteArray) t136 _ A6.out).mono ?_); rintro e w' ⟨rfl, ⟨nd, rfl⟩⟩))
        go_meet
        case rel => exact ⟨_, (!t136), (by first | rfl | (simp; done) | (simp [*]; done) | (simp [bne_nil_]; done)), H', ⟨by first | omega | exact Nat.le_refl _⟩, ⟨by repeat (first | (with_reducible first | exact HB.out | apply below_alloc | apply pw_below_drewN | apply below_drew1) | exact HB.out)⟩⟩
      · replace c5 := Bool.eq_false_iff.mpr c5
        subst c5
        have H1 : (laws_FnCRANZeros.j0 k a0 true) = some r := by rw [if_neg (show ¬ (false = true) by decide)] at H; exact H
        clear H
        have H := H1
        clear H1
        have H' := Aside0.mk H
        clear H
        go_wp2_with (first | ((with_reducible refine gate_dst (N := 11) rfl ?_); refine Kd.R_lit Kd.string _ 9 ?hg (N := 11) ?hd (xs := ([a0] : List ByteArray)) (inner := [.string a0]) (ok := fun _ => True) (okp := fun _ => True) ?hr ?hp (fun _ hk => hk) trivial (Below.refl _ _) (Nat.le_refl _) (by simp) ?_; (case hd => rfl); (case hg => rfl); (case hr => first | (go_simp; done) | (go_simp; rfl)); (case hp => exact (Reps.one (show Kd.M Kd.string _ _ _ a0 [.string a0] from rfl) (Reps.none _ _))); intro v133 w10 ho11 hb hg_ hnew_; clear hg_ hnew_; (first | rw [← Ny132.out] at ho11 | (simp only [Int.reduceToNat] at ho11; rw [← Ny132.out] at ho11)); have n0_ := Aside0.mk (Kd.R_lower ho11 (below_size (by repeat (first | (with_reducible first | exact HB.out | apply below_alloc | apply pw_below_drewN | apply below_drew1) | exact HB.out)))); have n1_ := Aside0.mk (below_step (by repeat (first | (with_reducible first | exact HB.out | apply below_alloc | apply pw_below_drewN | apply below_drew1) | exact HB.out)) hb); clear HB; have HO134 := n0_; have HB := n1_; clear n0_ n1_; clear hb ho11; obtain ⟨Ao12, co12, eo12⟩ := Kd.R_slice HO134.out; subst eo12) | ((with_reducible refine gate_callee (f := 15) rfl ?_); refine goesL_ (some 12) rfl rfl Tryd.func15 (by kernel_rfl) rfl #[.slice Ao12 y132.length co12] rfl (by (try simp only [List.map_toArray, List.map_cons, List.map_nil]); first | done | rfl | (simp only [List.length_drop, List.length_take]; rfl)) ?_; (with_reducible refine (laws_short.calls k _ _ y132 false _ ?side1 ?side2 A4.out).mono ?_); (case side1 => repeat (first | exact (Kd.R_reads' HO134.out).2.2 | (with_reducible refine Kd.C_alloc ?_ _) | (with_reducible refine Kd.C_drewN ?_ _) | (with_reducible refine Kd.C_drew ?_))); (case side2 => exact (Kd.R_reads' HO134.out).2.1); rintro e w' ⟨rfl, ⟨nd, rfl⟩⟩; refine ⟨_, rfl, ?_⟩))
        go_meet
        case rel => exact ⟨_, (true), (by first | rfl | (simp; done) | (simp [*]; done) | (simp [bne_nil_]; done)), H', ⟨by first | omega | exact Nat.le_refl _⟩, ⟨by repeat (first | (with_reducible first | exact HB.out | apply below_alloc | apply pw_below_drewN | apply below_drew1) | exact HB.out)⟩⟩
    case rest =>
      clear HC3
      try clear c1
      try clear c2
      try clear c2b0
      try clear c2b1
      try clear p2
      try clear c5
      try clear c11
      obtain ⟨kq, x18_2, rfl, HA, HJ2, HB⟩ := hcut
      cases kq with
      | zero => exact absurd HA.out (by simp [laws_FnCRANZeros.j0])
      | succ kj2 =>
        have H := HA.out
        clear HA
        simp only [laws_FnCRANZeros.j0] at H
        by_cases c13 : x18_2 = true
        · subst c13
          have H1 : (some true) = some r := by rw [if_pos rfl] at H; exact H
          clear H
          have H := H1
          clear H1
          obtain rfl := Option.some.inj H
          go_wp2
          go_ret
          exact ⟨by first | rfl | (simp [errW_none, errW_some] <;> rfl) | (simp [*, errW_none, errW_some] <;> rfl) | (simp [bne_nil_]; done), by repeat (first | (with_reducible first | exact HB.out | apply below_alloc | apply pw_below_drewN | apply below_drew1) | exact HB.out)⟩
        · replace c13 := Bool.eq_false_iff.mpr c13
          subst c13
          have H1 : ((Giv.impl_CRANParse.f kj2 a0).bind fun bt137 => ((laws_zeroed.f kj2 a0).bind fun t141 => ((Giv.impl_CRANParse.f kj2 t141).bind fun bt142 => ((laws_cranAwake.f kj2).bind fun t146 => (if t146 = true then (if (bt137.2 == bt142.2) = true then ((laws_ints.f kj2 bt137.1 bt142.1).bind fun t147 => (some t147)) else (some false)) else (some false)))))) = some r := by rw [if_neg (show ¬ (false = true) by decide)] at H; exact H
          clear H
          have H := H1
          clear H1
          replace H := Option.bind_eq_some_iff.mp H
          obtain ⟨⟨t137, t138⟩, A140, H⟩ := H
          replace H : ((laws_zeroed.f kj2 a0).bind fun t141 => ((Giv.impl_CRANParse.f kj2 t141).bind fun bt142 => ((laws_cranAwake.f kj2).bind fun t146 => (if t146 = true then (if (t138 == bt142.2) = true then ((laws_ints.f kj2 t137 bt142.1).bind fun t147 => (some t147)) else (some false)) else (some false))))) = some r := H
          have A14 := Aside0.mk A140
          clear A140
          replace H := Option.bind_eq_some_iff.mp H
          obtain ⟨t141, A150, H⟩ := H
          replace H : ((Giv.impl_CRANParse.f kj2 t141).bind fun bt142 => ((laws_cranAwake.f kj2).bind fun t146 => (if t146 = true then (if (t138 == bt142.2) = true then ((laws_ints.f kj2 t137 bt142.1).bind fun t147 => (some t147)) else (some false)) else (some false)))) = some r := H
          have A15 := Aside0.mk A150
          clear A150
          replace H := Option.bind_eq_some_iff.mp H
          obtain ⟨⟨t142, t143⟩, A160, H⟩ := H
          replace H : ((laws_cranAwake.f kj2).bind fun t146 => (if t146 = true then (if (t138 == t143) = true then ((laws_ints.f kj2 t137 t142).bind fun t147 => (some t147)) else (some false)) else (some false))) = some r := H
          have A16 := Aside0.mk A160
          clear A160
          replace H := Option.bind_eq_some_iff.mp H
          obtain ⟨t146, A170, H⟩ := H
          replace H : (if t146 = true then (if (t138 == t143) = true then ((laws_ints.f kj2 t137 t142).bind fun t147 => (some t147)) else (some false)) else (some false)) = some r := H
          have A17 := Aside0.mk A170
          clear A170
          by_cases c18 : t146 = true
          · subst c18
            have H1 : (if (t138 == t143) = true then ((laws_ints.f kj2 t137 t142).bind fun t147 => (some t147)) else (some false)) = some r := by rw [if_pos rfl] at H; exact H
            clear H
            have H := H1
            clear H1
            by_cases c19 : (t138 == t143) = true
            · rw [if_pos c19] at H
              have c19b0 : (t138 == t143) = true := c19
              (try (have c19b1 : decide (t138 = t143) = true := by simpa using c19))
              (try (have c19b2 : (t138 == t143) = true := by simpa using c19))
              clear c19
              replace H := Option.bind_eq_some_iff.mp H
              obtain ⟨t147, A200, H⟩ := H
              replace H : (some t147) = some r := H
              have A20 := Aside0.mk A200
              clear A200
              obtain rfl := Option.some.inj H
              go_wp2_with (first | ((with_reducible refine gate_callee (f := 45) rfl ?_); refine goesL_ (some 21) rfl rfl Tryd.func45 (by kernel_rfl) rfl #[.string a0] rfl (by (try simp only [List.map_toArray, List.map_cons, List.map_nil]); first | done | rfl | (simp only [List.length_drop, List.length_take]; rfl)) ?_; (with_reducible refine (Giv.impl_CRANParse.calls kj2 a0 t137 t138 _ A14.out (HLd.out.below (by repeat (first | (with_reducible first | exact HB.out | apply below_alloc | apply pw_below_drewN | apply below_drew1) | exact HB.out)))).mono ?_); rintro e w21 ⟨v139, rfl, ho0, hb⟩; refine ⟨_, rfl, ?_⟩; have n0_ := Aside0.mk (Kd.R_lower ho0 (below_size (by repeat (first | (with_reducible first | exact HB.out | apply below_alloc | apply pw_below_drewN | apply below_drew1) | exact HB.out)))); have n1_ := Aside0.mk (below_step (by repeat (first | (with_reducible first | exact HB.out | apply below_alloc | apply pw_below_drewN | apply below_drew1) | exact HB.out)) hb); clear HB; have HO140 := n0_; have HB := n1_; clear n0_ n1_; (try clear hb); (try clear hb2); (try clear hk); (try clear hi); (try clear ho0)) | ((with_reducible refine gate_callee (f := 48) rfl ?_); refine goesL_ (some 26) rfl rfl Tryd.func48 (by kernel_rfl) rfl #[.string a0] rfl (by (try simp only [List.map_toArray, List.map_cons, List.map_nil]); first | done | rfl | (simp only [List.length_drop, List.length_take]; rfl)) ?_; (with_reducible refine (laws_zeroed.calls kj2 a0 t141 _ A15.out).mono ?_); rintro e w' ⟨rfl, ⟨nd, rfl⟩⟩; refine ⟨_, rfl, ?_⟩) | ((with_reducible refine gate_callee (f := 45) rfl ?_); refine goesL_ (some 27) rfl rfl Tryd.func45 (by kernel_rfl) rfl #[.string t141] rfl (by (try simp only [List.map_toArray, List.map_cons, List.map_nil]); first | done | rfl | (simp only [List.length_drop, List.length_take]; rfl)) ?_; (with_reducible refine (Giv.impl_CRANParse.calls kj2 t141 t142 t143 _ A16.out (HLd.out.below (by repeat (first | (with_reducible first | exact HB.out | apply below_alloc | apply pw_below_drewN | apply below_drew1) | exact HB.out)))).mono ?_); rintro e w22 ⟨v144, rfl, ho0, hb⟩; refine ⟨_, rfl, ?_⟩; have n0_ := Aside0.mk (Kd.R_elder' (by (with_reducible repeat (first | apply Kd.R_alloc | apply Kd.R_drewN | apply Kd.R_drew)); exact HO140.out) (Kd.R_base ho0) hb); have n1_ := Aside0.mk (Kd.R_lower (Kd.R_new' ho0 (Kd.R_lt (by (with_reducible repeat (first | apply Kd.R_alloc | apply Kd.R_drewN | apply Kd.R_drew)); exact HO140.out))) (below_size (by repeat (first | (with_reducible first | exact HB.out | apply below_alloc | apply pw_below_drewN | apply below_drew1) | exact HB.out)))); have n2_ := Aside0.mk (below_step (by repeat (first | (with_reducible first | exact HB.out | apply below_alloc | apply pw_below_drewN | apply below_drew1) | exact HB.out)) hb); clear HO140; clear HB; have HO140 := n0_; have HO145 := n1_; have HB := n2_; clear n0_ n1_ n2_; (try clear hb); (try clear hb2); (try clear hk); (try clear hi); (try clear ho0)) | ((with_reducible refine gate_callee (f := 46) rfl ?_); refine goesL_ (some 30) rfl rfl Tryd.func46 (by kernel_rfl) rfl #[] rfl (by (try simp only [List.map_toArray, List.map_cons, List.map_nil]); first | done | rfl | (simp only [List.length_drop, List.length_take]; rfl)) ?_; (with_reducible refine (laws_cranAwake.calls kj2  true _ A17.out (HLd.out.below (by repeat (first | (with_reducible first | exact HB.out | apply below_alloc | apply pw_below_drewN | apply below_drew1) | exact HB.out)))).mono ?_); rintro e w23 ⟨rfl, hb⟩; refine ⟨_, rfl, ?_⟩; have n0_ := Aside0.mk (Kd.R_below (by (with_reducible repeat (first | apply Kd.R_alloc | apply Kd.R_drewN | apply Kd.R_drew)); exact HO140.out) hb); have n1_ := Aside0.mk (Kd.R_below (by (with_reducible repeat (first | apply Kd.R_alloc | apply Kd.R_drewN | apply Kd.R_drew)); exact HO145.out) hb); have n2_ := Aside0.mk (below_step (by repeat (first | (with_reducible first | exact HB.out | apply below_alloc | apply pw_below_drewN | apply below_drew1) | exact HB.out)) hb); clear HO140; clear HO145; clear HB; have HO140 := n0_; have HO145 := n1_; have HB := n2_; clear n0_ n1_ n2_; (try clear hb); (try clear hb2); (try clear hk); (try clear hi); obtain ⟨Ao24, co24, eo24⟩ := Kd.R_slice HO140.out; subst eo24; obtain ⟨Ao25, co25, eo25⟩ := Kd.R_slice HO145.out; subst eo25) | (go_at_call 47; (with_reducible refine (laws_ints.calls kj2 _ _ t137 _ _ t142 t147 _ ?side1 ?side2 ?side3 ?side4 A20.out).mono ?_); (case side1 => repeat (first | exact (Kd.R_reads' HO140.out).2.2 | (with_reducible refine Kd.C_alloc ?_ _) | (with_reducible refine Kd.C_drewN ?_ _) | (with_reducible refine Kd.C_drew ?_))); (case side2 => exact (Kd.R_reads' HO140.out).2.1); (case side3 => repeat (first | exact (Kd.R_reads' HO145.out).2.2 | (with_reducible refine Kd.C_alloc ?_ _) | (with_reducible refine Kd.C_drewN ?_ _) | (with_reducible refine Kd.C_drew ?_))); (case side4 => exact (Kd.R_reads' HO145.out).2.1); rintro e w' ⟨rfl, ⟨nd, rfl⟩⟩))
              go_ret
              exact ⟨by first | rfl | (simp [errW_none, errW_some] <;> rfl) | (simp [*, errW_none, errW_some] <;> rfl) | (simp [bne_nil_]; done), by repeat (first | (with_reducible first | exact HB.out | apply below_alloc | apply pw_below_drewN | apply below_drew1) | exact HB.out)⟩
            · rw [if_neg c19] at H
              have c19b0 : (t138 == t143) = false := by simpa using c19
              (try (have c19b1 : decide (t138 = t143) = false := by simpa using c19))
              (try (have c19b2 : (t138 == t143) = false := by simpa using c19))
              (try (have c19b3 : ¬ (t138 = t143) := by simpa using c19))
              clear c19
              obtain rfl := Option.some.inj H
              go_wp2_with (first | ((with_reducible refine gate_callee (f := 45) rfl ?_); refine goesL_ (some 21) rfl rfl Tryd.func45 (by kernel_rfl) rfl #[.string a0] rfl (by (try simp only [List.map_toArray, List.map_cons, List.map_nil]); first | done | rfl | (simp only [List.length_drop, List.length_take]; rfl)) ?_; (with_reducible refine (Giv.impl_CRANParse.calls kj2 a0 t137 t138 _ A14.out (HLd.out.below (by repeat (first | (with_reducible first | exact HB.out | apply below_alloc | apply pw_below_drewN | apply below_drew1) | exact HB.out)))).mono ?_); rintro e w26 ⟨v139, rfl, ho0, hb⟩; refine ⟨_, rfl, ?_⟩; have n0_ := Aside0.mk (Kd.R_lower ho0 (below_size (by repeat (first | (with_reducible first | exact HB.out | apply below_alloc | apply pw_below_drewN | apply below_drew1) | exact HB.out)))); have n1_ := Aside0.mk (below_step (by repeat (first | (with_reducible first | exact HB.out | apply below_alloc | apply pw_below_drewN | apply below_drew1) | exact HB.out)) hb); clear HB; have HO140 := n0_; have HB := n1_; clear n0_ n1_; (try clear hb); (try clear hb2); (try clear hk); (try clear hi); (try clear ho0)) | ((with_reducible refine gate_callee (f := 48) rfl ?_); refine goesL_ (some 26) rfl rfl Tryd.func48 (by kernel_rfl) rfl #[.string a0] rfl (by (try simp only [List.map_toArray, List.map_cons, List.map_nil]); first | done | rfl | (simp only [List.length_drop, List.length_take]; rfl)) ?_; (with_reducible refine (laws_zeroed.calls kj2 a0 t141 _ A15.out).mono ?_); rintro e w' ⟨rfl, ⟨nd, rfl⟩⟩; refine ⟨_, rfl, ?_⟩) | ((with_reducible refine gate_callee (f := 45) rfl ?_); refine goesL_ (some 27) rfl rfl Tryd.func45 (by kernel_rfl) rfl #[.string t141] rfl (by (try simp only [List.map_toArray, List.map_cons, List.map_nil]); first | done | rfl | (simp only [List.length_drop, List.length_take]; rfl)) ?_; (with_reducible refine (Giv.impl_CRANParse.calls kj2 t141 t142 t143 _ A16.out (HLd.out.below (by repeat (first | (with_reducible first | exact HB.out | apply below_alloc | apply pw_below_drewN | apply below_drew1) | exact HB.out)))).mono ?_); rintro e w27 ⟨v144, rfl, ho0, hb⟩; refine ⟨_, rfl, ?_⟩; have n0_ := Aside0.mk (Kd.R_elder' (by (with_reducible repeat (first | apply Kd.R_alloc | apply Kd.R_drewN | apply Kd.R_drew)); exact HO140.out) (Kd.R_base ho0) hb); have n1_ := Aside0.mk (Kd.R_lower (Kd.R_new' ho0 (Kd.R_lt (by (with_reducible repeat (first | apply Kd.R_alloc | apply Kd.R_drewN | apply Kd.R_drew)); exact HO140.out))) (below_size (by repeat (first | (with_reducible first | exact HB.out | apply below_alloc | apply pw_below_drewN | apply below_drew1) | exact HB.out)))); have n2_ := Aside0.mk (below_step (by repeat (first | (with_reducible first | exact HB.out | apply below_alloc | apply pw_below_drewN | apply below_drew1) | exact HB.out)) hb); clear HO140; clear HB; have HO140 := n0_; have HO145 := n1_; have HB := n2_; clear n0_ n1_ n2_; (try clear hb); (try clear hb2); (try clear hk); (try clear hi); (try clear ho0)) | ((with_reducible refine gate_callee (f := 46) rfl ?_); refine goesL_ (some 30) rfl rfl Tryd.func46 (by kernel_rfl) rfl #[] rfl (by (try simp only [List.map_toArray, List.map_cons, List.map_nil]); first | done | rfl | (simp only [List.length_drop, List.length_take]; rfl)) ?_; (with_reducible refine (laws_cranAwake.calls kj2  true _ A17.out (HLd.out.below (by repeat (first | (with_reducible first | exact HB.out | apply below_alloc | apply pw_below_drewN | apply below_drew1) | exact HB.out)))).mono ?_); rintro e w28 ⟨rfl, hb⟩; refine ⟨_, rfl, ?_⟩; have n0_ := Aside0.mk (Kd.R_below (by (with_reducible repeat (first | apply Kd.R_alloc | apply Kd.R_drewN | apply Kd.R_drew)); exact HO140.out) hb); have n1_ := Aside0.mk (Kd.R_below (by (with_reducible repeat (first | apply Kd.R_alloc | apply Kd.R_drewN | apply Kd.R_drew)); exact HO145.out) hb); have n2_ := Aside0.mk (below_step (by repeat (first | (with_reducible first | exact HB.out | apply below_alloc | apply pw_below_drewN | apply below_drew1) | exact HB.out)) hb); clear HO140; clear HO145; clear HB; have HO140 := n0_; have HO145 := n1_; have HB := n2_; clear n0_ n1_ n2_; (try clear hb); (try clear hb2); (try clear hk); (try clear hi)))
              go_ret
              exact ⟨by first | rfl | (simp [errW_none, errW_some] <;> rfl) | (simp [*, errW_none, errW_some] <;> rfl) | (simp [bne_nil_]; done), by repeat (first | (with_reducible first | exact HB.out | apply below_alloc | apply pw_below_drewN | apply below_drew1) | exact HB.out)⟩
          · replace c18 := Bool.eq_false_iff.mpr c18
            subst c18
            have H1 : (some false) = some r := by rw [if_neg (show ¬ (false = true) by decide)] at H; exact H
            clear H
            have H := H1
            clear H1
            obtain rfl := Option.some.inj H
            go_wp2_with (first | ((with_reducible refine gate_callee (f := 45) rfl ?_); refine goesL_ (some 21) rfl rfl Tryd.func45 (by kernel_rfl) rfl #[.string a0] rfl (by (try simp only [List.map_toArray, List.map_cons, List.map_nil]); first | done | rfl | (simp only [List.length_drop, List.length_take]; rfl)) ?_; (with_reducible refine (Giv.impl_CRANParse.calls kj2 a0 t137 t138 _ A14.out (HLd.out.below (by repeat (first | (with_reducible first | exact HB.out | apply below_alloc | apply pw_below_drewN | apply below_drew1) | exact HB.out)))).mono ?_); rintro e w29 ⟨v139, rfl, ho0, hb⟩; refine ⟨_, rfl, ?_⟩; have n0_ := Aside0.mk (Kd.R_lower ho0 (below_size (by repeat (first | (with_reducible first | exact HB.out | apply below_alloc | apply pw_below_drewN | apply below_drew1) | exact HB.out)))); have n1_ := Aside0.mk (below_step (by repeat (first | (with_reducible first | exact HB.out | apply below_alloc | apply pw_below_drewN | apply below_drew1) | exact HB.out)) hb); clear HB; have HO140 := n0_; have HB := n1_; clear n0_ n1_; (try clear hb); (try clear hb2); (try clear hk); (try clear hi); (try clear ho0)) | ((with_reducible refine gate_callee (f := 48) rfl ?_); refine goesL_ (some 26) rfl rfl Tryd.func48 (by kernel_rfl) rfl #[.string a0] rfl (by (try simp only [List.map_toArray, List.map_cons, List.map_nil]); first | done | rfl | (simp only [List.length_drop, List.length_take]; rfl)) ?_; (with_reducible refine (laws_zeroed.calls kj2 a0 t141 _ A15.out).mono ?_); rintro e w' ⟨rfl, ⟨nd, rfl⟩⟩; refine ⟨_, rfl, ?_⟩) | ((with_reducible refine gate_callee (f := 45) rfl ?_); refine goesL_ (some 27) rfl rfl Tryd.func45 (by kernel_rfl) rfl #[.string t141] rfl (by (try simp only [List.map_toArray, List.map_cons, List.map_nil]); first | done | rfl | (simp only [List.length_drop, List.length_take]; rfl)) ?_; (with_reducible refine (Giv.impl_CRANParse.calls kj2 t141 t142 t143 _ A16.out (HLd.out.below (by repeat (first | (with_reducible first | exact HB.out | apply below_alloc | apply pw_below_drewN | apply below_drew1) | exact HB.out)))).mono ?_); rintro e w30 ⟨v144, rfl, ho0, hb⟩; refine ⟨_, rfl, ?_⟩; have n0_ := Aside0.mk (Kd.R_elder' (by (with_reducible repeat (first | apply Kd.R_alloc | apply Kd.R_drewN | apply Kd.R_drew)); exact HO140.out) (Kd.R_base ho0) hb); have n1_ := Aside0.mk (Kd.R_lower (Kd.R_new' ho0 (Kd.R_lt (by (with_reducible repeat (first | apply Kd.R_alloc | apply Kd.R_drewN | apply Kd.R_drew)); exact HO140.out))) (below_size (by repeat (first | (with_reducible first | exact HB.out | apply below_alloc | apply pw_below_drewN | apply below_drew1) | exact HB.out)))); have n2_ := Aside0.mk (below_step (by repeat (first | (with_reducible first | exact HB.out | apply below_alloc | apply pw_below_drewN | apply below_drew1) | exact HB.out)) hb); clear HO140; clear HB; have HO140 := n0_; have HO145 := n1_; have HB := n2_; clear n0_ n1_ n2_; (try clear hb); (try clear hb2); (try clear hk); (try clear hi); (try clear ho0)) | ((with_reducible refine gate_callee (f := 46) rfl ?_); refine goesL_ (some 30) rfl rfl Tryd.func46 (by kernel_rfl) rfl #[] rfl (by (try simp only [List.map_toArray, List.map_cons, List.map_nil]); first | done | rfl | (simp only [List.length_drop, List.length_take]; rfl)) ?_; (with_reducible refine (laws_cranAwake.calls kj2  false _ A17.out (HLd.out.below (by repeat (first | (with_reducible first | exact HB.out | apply below_alloc | apply pw_below_drewN | apply below_drew1) | exact HB.out)))).mono ?_); rintro e w31 ⟨rfl, hb⟩; refine ⟨_, rfl, ?_⟩; have n0_ := Aside0.mk (Kd.R_below (by (with_reducible repeat (first | apply Kd.R_alloc | apply Kd.R_drewN | apply Kd.R_drew)); exact HO140.out) hb); have n1_ := Aside0.mk (Kd.R_below (by (with_reducible repeat (first | apply Kd.R_alloc | apply Kd.R_drewN | apply Kd.R_drew)); exact HO145.out) hb); have n2_ := Aside0.mk (below_step (by repeat (first | (with_reducible first | exact HB.out | apply below_alloc | apply pw_below_drewN | apply below_drew1) | exact HB.out)) hb); clear HO140; clear HO145; clear HB; have HO140 := n0_; have HO145 := n1_; have HB := n2_; clear n0_ n1_ n2_; (try clear hb); (try clear hb2); (try clear hk); (try clear hi)))
            go_ret
            exact ⟨by first | rfl | (simp [errW_none, errW_some] <;> rfl) | (simp [*, errW_none, errW_some] <;> rfl) | (simp [bne_nil_]; done), by repeat (first | (with_reducible first | exact HB.out | apply below_alloc | apply pw_below_drewN | apply below_drew1) | exact HB.out)⟩

/-- THE ONE PURE STATEMENT of laws_FnCRANZeros: yours. -/
def laws_FnCRANZeros.Pure : Prop := ∀ (a0 : ByteArray), a0.size ≤ 140737488351232 → ∃ k, laws_FnCRANZeros.f k a0 = some true

end Go.Proofs.YtchbfjjeodnocaaDoor.QX
