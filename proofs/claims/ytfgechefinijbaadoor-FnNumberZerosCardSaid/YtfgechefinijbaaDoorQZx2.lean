-- Written by a working copy of the kit's print program, turned at a few places by wip/tool/mkprint.py. Lean checks it.
import Derived.Test.YtfgechefinijbaaDoorQZx0
import Derived.Test.YtfgechefinijbaaDoorQZx1
namespace Go.Proofs.YtfgechefinijbaaDoor.QZ
open Go.RowKit Go.Proofs.YtfgechefinijbaaDoorW.PrintWords Go.Proofs.YtfgechefinijbaaDoorW.PrintLast Go.Proofs.YtfgechefinijbaaDoorW.PrintMore
attribute [local go_sem] max2_int min2_int max_two min_two max_three min_three max_four min_four   -- for this text's walks alone
set_option linter.unusedVariables false
set_option linter.unusedSimpArgs false

attribute [local go_sem high] eqA24
/-! ### laws_short: function 14 -/
def laws_short.l0 : Nat → List ByteArray → List ByteArray → Int → Int → Option (Bool)
  | 0, _, _, _, _ => none
  | k + 1, x0, x5, x6, x7 => if x7 < x6 then (if 0 ≤ x7 then (if x7 < (x5.length : Int) then (if ((rdOf ByteArray.empty x5 x7).size : Int) > 1500 then (some false) else (laws_short.l0 k x0 x5 x6 (wrap64 (x7 + 1)))) else (none)) else (none)) else (some (decide ((x0.length : Int) ≤ 150)))
def laws_short.f (k : Nat) (l0 : List ByteArray) : Option (Bool) := laws_short.l0 k l0 l0 (l0.length : Int) 0
theorem laws_short.mono_l : ∀ k, (∀ y0 y1 y2 y3, LeO (laws_short.l0 k y0 y1 y2 y3) (laws_short.l0 (k + 1) y0 y1 y2 y3))
  | 0 => fun _ _ _ _ r h => by simp [laws_short.l0] at h
  | k + 1 => by
    have ih0 := laws_short.mono_l k
    · intro y0 y1 y2 y3
      unfold laws_short.l0
      repeat' first
      | (with_reducible exact ih0 _ _ _ _)
      | (with_reducible exact LeO.refl _)
      | (with_reducible exact LeO.none _)
      | (with_reducible refine LeO.ite ?_ ?_)
      | (with_reducible refine LeO.bind ?_ (fun _ => ?_))
      | exact ih0 _ _ _ _
      | exact LeO.none _
      | refine LeO.ite ?_ ?_
      | refine LeO.bind ?_ (fun _ => ?_)
theorem laws_short.mono : ∀ a0 k, LeO (laws_short.f k a0) (laws_short.f (k + 1) a0) := by
  intro a0 k
  have ih0 := laws_short.mono_l k
  unfold laws_short.f
  repeat' first
      | (with_reducible exact ih0 _ _ _ _)
      | (with_reducible exact LeO.refl _)
      | (with_reducible exact LeO.none _)
      | (with_reducible refine LeO.ite ?_ ?_)
      | (with_reducible refine LeO.bind ?_ (fun _ => ?_))
      | exact ih0 _ _ _ _
      | exact LeO.none _
      | refine LeO.ite ?_ ?_
      | refine LeO.bind ?_ (fun _ => ?_)
set_option maxHeartbeats 8000000 in
set_option maxRecDepth 100000 in
theorem laws_short.calls (k : Nat) (A0 : Option Addr) (c0 : Nat) (l0 : List ByteArray) (r : Bool) (w : World) (hr0 : Kd.C Kd.string w A0 l0.length l0) (hc0 : l0.length ≤ c0) (h : laws_short.f k l0 = some r) :
    Calls Tryd.prog 14 #[.slice A0 l0.length c0] w fun e w' => e = .returned (.bool r) ∧ Drawn0 w w' := by
  have HR0 := Aside0.mk hr0
  have HC0 := Aside0.mk hc0
  clear hr0 hc0
  have H : (laws_short.l0 k l0 l0 (l0.length : Int) 0) = some r := h
  clear h
  have H' := Aside0.mk H
  clear H
  go_enter Tryd.func14, Tryd.ntmps14
  go_wp2
  go_loopg [7] k (fun kq v7 w' => ∃ (x7_1 : Int), v7 = .int .i64 x7_1 ∧ Aside0 (laws_short.l0 kq l0 l0 (l0.length : Int) x7_1 = some r) ∧ Aside0 (kq ≤ k) ∧ Drawn0 w w')
  case atStart => exact ⟨(0), (by first | rfl | (simp; done) | (simp [*]; done) | (simp [bne_nil_]; done)), H', ⟨Nat.le_refl _⟩, by repeat (first | exact Drawn0.refl _ | apply Drawn0.step)⟩
  case round =>
    clear H'
    try clear c1
    obtain ⟨x7_1, rfl, HA, HK1, ⟨m1, rfl⟩⟩ := hrel
    cases gk with
    | zero => exact absurd HA.out (by simp [laws_short.l0])
    | succ k1 =>
      have H := HA.out
      clear HA
      simp only [laws_short.l0] at H
      by_cases c2 : x7_1 < (l0.length : Int)
      · rw [if_pos c2] at H
        have c2b0 : decide (x7_1 < (l0.length : Int)) = true := decide_eq_true c2
        clear c2
        by_cases c3 : 0 ≤ x7_1
        · rw [if_pos c3] at H
          have c3b0 : decide (0 ≤ x7_1) = true := decide_eq_true c3
          clear c3
          by_cases c4 : x7_1 < (l0.length : Int)
          · rw [if_pos c4] at H
            have c4b0 : decide (x7_1 < (l0.length : Int)) = true := decide_eq_true c4
            clear c4
            by_cases c5 : ((rdOf ByteArray.empty l0 x7_1).size : Int) > 1500
            · rw [if_pos c5] at H
              have c5b0 : decide (1500 < ((rdOf ByteArray.empty l0 x7_1).size : Int)) = true := decide_eq_true c5
              have c5b1 : decide (1500 < (rdOf ByteArray.empty l0 x7_1).size) = true := decide_eq_true (by omega)
              clear c5
              obtain rfl := Option.some.inj H
              have p101 : 0 ≤ (x7_1 : Int) := of_decide_eq_true (by first | (with_reducible assumption) | assumption)
              have q101 : x7_1 < (l0.length : Int) := of_decide_eq_true (by first | (with_reducible assumption) | assumption)
              obtain ⟨ad101, e101, hx101_0⟩ := Kd.at_string HR0.out x7_1 p101 q101
              cases e101
              replace p101 := eq_true p101
              replace q101 := eq_true q101
              go_wp2
              go_ret
              exact ⟨by first | rfl | (simp; done) | (simp [*]; done) | (simp [bne_nil_]; done), by repeat (first | exact Drawn0.refl _ | apply Drawn0.step)⟩
            · rw [if_neg c5] at H
              have c5b0 : decide (1500 < ((rdOf ByteArray.empty l0 x7_1).size : Int)) = false := decide_eq_false c5
              have c5b1 : decide (1500 < (rdOf ByteArray.empty l0 x7_1).size) = false := decide_eq_false (by omega)
              clear c5
              have H' := Aside0.mk H
              clear H
              have p101 : 0 ≤ (x7_1 : Int) := of_decide_eq_true (by first | (with_reducible assumption) | assumption)
              have q101 : x7_1 < (l0.length : Int) := of_decide_eq_true (by first | (with_reducible assumption) | assumption)
              obtain ⟨ad101, e101, hx101_0⟩ := Kd.at_string HR0.out x7_1 p101 q101
              cases e101
              replace p101 := eq_true p101
              replace q101 := eq_true q101
              go_wp2
              go_roundg k1
              case measure => have := HK1.out; omega
              case rel => exact ⟨(wrap64 (x7_1 + 1)), (by first | rfl | (simp; done) | (simp [*]; done) | (simp [bne_nil_]; done)), H', ⟨by have := HK1.out; omega⟩, by repeat (first | exact Drawn0.refl _ | apply Drawn0.step)⟩
          · rw [if_neg c4] at H
            exact absurd H (by simp)
        · rw [if_neg c3] at H
          exact absurd H (by simp)
      · rw [if_neg c2] at H
        have c2b0 : decide (x7_1 < (l0.length : Int)) = false := decide_eq_false c2
        clear c2
        obtain rfl := Option.some.inj H
        go_wp2
        go_ret
        exact ⟨by first | rfl | (simp; done) | (simp [*]; done) | (simp [bne_nil_]; done), by repeat (first | exact Drawn0.refl _ | apply Drawn0.step)⟩

-- LEFT OUT: function 107

-- LEFT OUT: function 109

-- LEFT OUT: function 113

-- LEFT OUT: function 116

-- LEFT OUT: function 115

-- LEFT OUT: function 127

-- LEFT OUT: function 128

-- LEFT OUT: function 125

-- LEFT OUT: function 129

-- LEFT OUT: function 130

-- LEFT OUT: function 126

-- LEFT OUT: function 124

-- LEFT OUT: function 122

-- LEFT OUT: function 117

-- LEFT OUT: function 110

-- LEFT OUT: function 111

-- LEFT OUT: function 112

-- LEFT OUT: function 118

-- LEFT OUT: function 119

-- LEFT OUT: function 120

-- LEFT OUT: function 123

-- LEFT OUT: function 121

-- LEFT OUT: function 114

-- LEFT OUT: function 108

-- LEFT OUT: function 102

-- LEFT OUT: function 94

-- LEFT OUT: function 95

-- LEFT OUT: function 79

-- LEFT OUT: function 66

-- LEFT OUT: function 80

-- LEFT OUT: function 96

-- LEFT OUT: function 81

-- LEFT OUT: function 67

-- LEFT OUT: function 41

-- GIVEN: function 15 (impl_Number)

/-! ### laws_FnNumberZeros: function 3 -/
mutual
def laws_FnNumberZeros.j0 : Nat → ByteArray → Int → Bool → Option (Bool)
  | 0, _, _, _ => none
  | k + 1, x0, x1, x21 => if x21 = true then (some true) else (laws_FnNumberZeros.l0 k x0 x1 x0 0)
def laws_FnNumberZeros.l0 : Nat → ByteArray → Int → ByteArray → Int → Option (Bool)
  | 0, _, _, _, _ => none
  | k + 1, x0, x1, x5, x6 => if x6 < (x0.size : Int) then (if 0 ≤ x6 then (if (bt x0 x6) < 48 then (some true) else (if (bt x0 x6) > 57 then (some true) else (laws_FnNumberZeros.l0 k x0 x1 x5 (wrap64 (x6 + 1))))) else (none)) else (laws_FnNumberZeros.l1 k x0 x5 x1 0)
def laws_FnNumberZeros.l1 : Nat → ByteArray → ByteArray → Int → Int → Option (Bool)
  | 0, _, _, _, _ => none
  | k + 1, x0, x5, x39, x40 => if x40 < x39 then (if 1 + x5.size ≤ 9223372036854775807 then (laws_FnNumberZeros.l1 k x0 ((⟨#[48]⟩ : ByteArray) ++ x5) x39 ((x40 + 1) % 256)) else (none)) else ((Giv.impl_Number.f x0).bind fun bt106 => ((Giv.impl_Number.f x5).bind fun bt110 => (if bt106.2.2 = true then (if bt110.2.2 = true then (if (bt106.1 == bt110.1 && (bt106.2.1.toList == bt110.2.1.toList)) = true then (some (!bt106.1)) else (some false)) else (some false)) else (some false))))
end
def laws_FnNumberZeros.f (k : Nat) (a0 : ByteArray) (a1 : Int) : Option (Bool) := if (a0.size : Int) > 2147483647 then (some true) else ((laws_short.f k (([a0] : List ByteArray))).bind fun t105 => (if t105 = true then (laws_FnNumberZeros.j0 k a0 a1 (a0.toList == ([] : List UInt8))) else (laws_FnNumberZeros.j0 k a0 a1 true)))
theorem laws_FnNumberZeros.mono_l : ∀ k, (∀ y0 y1 y2, LeO (laws_FnNumberZeros.j0 k y0 y1 y2) (laws_FnNumberZeros.j0 (k + 1) y0 y1 y2)) ∧ (∀ y0 y1 y2 y3, LeO (laws_FnNumberZeros.l0 k y0 y1 y2 y3) (laws_FnNumberZeros.l0 (k + 1) y0 y1 y2 y3)) ∧ (∀ y0 y1 y2 y3, LeO (laws_FnNumberZeros.l1 k y0 y1 y2 y3) (laws_FnNumberZeros.l1 (k + 1) y0 y1 y2 y3))
  | 0 => ⟨fun _ _ _ r h => by simp [laws_FnNumberZeros.j0] at h, fun _ _ _ _ r h => by simp [laws_FnNumberZeros.l0] at h, fun _ _ _ _ r h => by simp [laws_FnNumberZeros.l1] at h⟩
  | k + 1 => by
    obtain ⟨ih0, ih1, ih2⟩ := laws_FnNumberZeros.mono_l k
    refine ⟨?_, ?_, ?_⟩
    · intro y0 y1 y2
      unfold laws_FnNumberZeros.j0
      repeat' first
      | (with_reducible exact ih0 _ _ _)
      | (with_reducible exact ih1 _ _ _ _)
      | (with_reducible exact ih2 _ _ _ _)
      | (with_reducible exact laws_short.mono _ _)
      | (with_reducible exact LeO.refl _)
      | (with_reducible exact LeO.none _)
      | (with_reducible refine LeO.ite ?_ ?_)
      | (with_reducible refine LeO.bind ?_ (fun _ => ?_))
      | exact ih0 _ _ _
      | exact ih1 _ _ _ _
      | exact ih2 _ _ _ _
      | exact laws_short.mono _ _
      | exact LeO.none _
      | refine LeO.ite ?_ ?_
      | refine LeO.bind ?_ (fun _ => ?_)
    · intro y0 y1 y2 y3
      unfold laws_FnNumberZeros.l0
      repeat' first
      | (with_reducible exact ih0 _ _ _)
      | (with_reducible exact ih1 _ _ _ _)
      | (with_reducible exact ih2 _ _ _ _)
      | (with_reducible exact laws_short.mono _ _)
      | (with_reducible exact LeO.refl _)
      | (with_reducible exact LeO.none _)
      | (with_reducible refine LeO.ite ?_ ?_)
      | (with_reducible refine LeO.bind ?_ (fun _ => ?_))
      | exact ih0 _ _ _
      | exact ih1 _ _ _ _
      | exact ih2 _ _ _ _
      | exact laws_short.mono _ _
      | exact LeO.none _
      | refine LeO.ite ?_ ?_
      | refine LeO.bind ?_ (fun _ => ?_)
    · intro y0 y1 y2 y3
      unfold laws_FnNumberZeros.l1
      repeat' first
      | (with_reducible exact ih0 _ _ _)
      | (with_reducible exact ih1 _ _ _ _)
      | (with_reducible exact ih2 _ _ _ _)
      | (with_reducible exact laws_short.mono _ _)
      | (with_reducible exact LeO.refl _)
      | (with_reducible exact LeO.none _)
      | (with_reducible refine LeO.ite ?_ ?_)
      | (with_reducible refine LeO.bind ?_ (fun _ => ?_))
      | exact ih0 _ _ _
      | exact ih1 _ _ _ _
      | exact ih2 _ _ _ _
      | exact laws_short.mono _ _
      | exact LeO.none _
      | refine LeO.ite ?_ ?_
      | refine LeO.bind ?_ (fun _ => ?_)
theorem laws_FnNumberZeros.mono : ∀ a0 a1 k, LeO (laws_FnNumberZeros.f k a0 a1) (laws_FnNumberZeros.f (k + 1) a0 a1) := by
  intro a0 a1 k
  obtain ⟨ih0, ih1, ih2⟩ := laws_FnNumberZeros.mono_l k
  unfold laws_FnNumberZeros.f
  repeat' first
      | (with_reducible exact ih0 _ _ _)
      | (with_reducible exact ih1 _ _ _ _)
      | (with_reducible exact ih2 _ _ _ _)
      | (with_reducible exact laws_short.mono _ _)
      | (with_reducible exact LeO.refl _)
      | (with_reducible exact LeO.none _)
      | (with_reducible refine LeO.ite ?_ ?_)
      | (with_reducible refine LeO.bind ?_ (fun _ => ?_))
      | exact ih0 _ _ _
      | exact ih1 _ _ _ _
      | exact ih2 _ _ _ _
      | exact laws_short.mono _ _
      | exact LeO.none _
      | refine LeO.ite ?_ ?_
      | refine LeO.bind ?_ (fun _ => ?_)
set_option maxHeartbeats 8000000 in
set_option maxRecDepth 100000 in
theorem laws_FnNumberZeros.calls (k : Nat) (a0 : ByteArray) (a1 : Int) (r : Bool) (w : World) (h : laws_FnNumberZeros.f k a0 a1 = some r) (hL : Giv.Laid w) :
    Calls Tryd.prog 3 #[.string a0, .int .u8 a1] w fun e w' => e = .returned (.bool r) ∧ Below w.heap.size w w' := by
  have HLd := Aside0.mk hL
  clear hL
  have hu24 := Tryd.underlying24
  have HB := Aside0.mk (Below.refl w.heap.size w)
  have H : (if (a0.size : Int) > 2147483647 then (some true) else ((laws_short.f k (([a0] : List ByteArray))).bind fun t105 => (if t105 = true then (laws_FnNumberZeros.j0 k a0 a1 (a0.toList == ([] : List UInt8))) else (laws_FnNumberZeros.j0 k a0 a1 true)))) = some r := h
  clear h
  by_cases c3 : (a0.size : Int) > 2147483647
  · rw [if_pos c3] at H
    have c3b0 : decide (2147483647 < (a0.size : Int)) = true := decide_eq_true c3
    have c3b1 : decide (2147483647 < a0.size) = true := decide_eq_true (by omega)
    clear c3
    obtain rfl := Option.some.inj H
    go_enter Tryd.func3, Tryd.ntmps3
    go_wp2
    go_ret
    exact ⟨by first | rfl | (simp [errW_none, errW_some] <;> rfl) | (simp [*, errW_none, errW_some] <;> rfl) | (simp [bne_nil_]; done), by repeat (first | (with_reducible first | exact HB.out | apply below_alloc | apply pw_below_drewN | apply below_drew1) | exact HB.out)⟩
  · rw [if_neg c3] at H
    have c3b0 : decide (2147483647 < (a0.size : Int)) = false := decide_eq_false c3
    have c3b1 : decide (2147483647 < a0.size) = false := decide_eq_false (by omega)
    clear c3
    have HC4 := Aside0.mk H
    clear H
    go_enter Tryd.func3, Tryd.ntmps3
    go_upto_region 3 with (fail)
    go_cut [21] (fun v21 wc => ∃ (kq : Nat) (x21_3 : Bool), v21 = .bool x21_3 ∧ Aside0 (laws_FnNumberZeros.j0 kq a0 a1 x21_3 = some r) ∧ Aside0 (kq ≤ k) ∧ Aside0 (Below w.heap.size w wc))
    case first =>
      have H := HC4.out
      clear HC4
      obtain ⟨y102, hy102⟩ : ∃ y_ : List ByteArray, y_ = (([a0] : List ByteArray)) := ⟨_, rfl⟩
      replace H : ((laws_short.f k y102).bind fun t105 => (if t105 = true then (laws_FnNumberZeros.j0 k a0 a1 (a0.toList == ([] : List UInt8))) else (laws_FnNumberZeros.j0 k a0 a1 true))) = some r := by first | (rw [hy102]; with_reducible exact H) | (have H2_ := (Option.bind_some _ _).symm.trans H; rw [hy102]; with_reducible exact H2_) | (have H2_ := (Option.bind_some _ _).symm.trans H; with_reducible exact H2_) | with_reducible exact H | (rw [hy102]; exact H) | exact H
      have Ny102 := Aside0.mk hy102
      clear hy102
      replace H := Option.bind_eq_some_iff.mp H
      obtain ⟨t105, A50, H⟩ := H
      replace H : (if t105 = true then (laws_FnNumberZeros.j0 k a0 a1 (a0.toList == ([] : List UInt8))) else (laws_FnNumberZeros.j0 k a0 a1 true)) = some r := H
      have A5 := Aside0.mk A50
      clear A50
      by_cases c6 : t105 = true
      · subst c6
        have H1 : (laws_FnNumberZeros.j0 k a0 a1 (a0.toList == ([] : List UInt8))) = some r := by rw [if_pos rfl] at H; exact H
        clear H
        have H := H1
        clear H1
        have H' := Aside0.mk H
        clear H
        go_wp2_with (first | ((with_reducible refine gate_dst (N := 15) rfl ?_); refine Kd.R_lit Kd.string _ 9 ?hg (N := 15) ?hd (xs := ([a0] : List ByteArray)) (inner := [.string a0]) (ok := fun _ => True) (okp := fun _ => True) ?hr ?hp (fun _ hk => hk) trivial (Below.refl _ _) (Nat.le_refl _) (by simp) ?_; (case hd => rfl); (case hg => rfl); (case hr => first | (go_simp; done) | (go_simp; rfl)); (case hp => exact (Reps.one (show Kd.M Kd.string _ _ _ a0 [.string a0] from rfl) (Reps.none _ _))); intro v103 w7 ho8 hb hg_ hnew_; clear hg_ hnew_; (first | rw [← Ny102.out] at ho8 | (simp only [Int.reduceToNat] at ho8; rw [← Ny102.out] at ho8)); have n0_ := Aside0.mk (Kd.R_lower ho8 (below_size (by repeat (first | (with_reducible first | exact HB.out | apply below_alloc | apply pw_below_drewN | apply below_drew1) | exact HB.out)))); have n1_ := Aside0.mk (below_step (by repeat (first | (with_reducible first | exact HB.out | apply below_alloc | apply pw_below_drewN | apply below_drew1) | exact HB.out)) hb); clear HB; have HO104 := n0_; have HB := n1_; clear n0_ n1_; clear hb ho8; obtain ⟨Ao9, co9, eo9⟩ := Kd.R_slice HO104.out; subst eo9) | ((with_reducible refine gate_callee (f := 14) rfl ?_); refine goesL_ (some 16) rfl rfl Tryd.func14 (by kernel_rfl) rfl #[.slice Ao9 y102.length co9] rfl (by (try simp only [List.map_toArray, List.map_cons, List.map_nil]); first | done | rfl | (simp only [List.length_drop, List.length_take]; rfl)) ?_; (with_reducible refine (laws_short.calls k _ _ y102 true _ ?side1 ?side2 A5.out).mono ?_); (case side1 => repeat (first | exact (Kd.R_reads' HO104.out).2.2 | (with_reducible refine Kd.C_alloc ?_ _) | (with_reducible refine Kd.C_drewN ?_ _) | (with_reducible refine Kd.C_drew ?_))); (case side2 => exact (Kd.R_reads' HO104.out).2.1); rintro e w' ⟨rfl, ⟨nd, rfl⟩⟩; refine ⟨_, rfl, ?_⟩))
        go_meet
        case rel => exact ⟨_, ((a0.toList == ([] : List UInt8))), (by first | rfl | (simp; done) | (simp [*]; done) | (simp [bne_nil_]; done)), H', ⟨by first | omega | exact Nat.le_refl _⟩, ⟨by repeat (first | (with_reducible first | exact HB.out | apply below_alloc | apply pw_below_drewN | apply below_drew1) | exact HB.out)⟩⟩
      · replace c6 := Bool.eq_false_iff.mpr c6
        subst c6
        have H1 : (laws_FnNumberZeros.j0 k a0 a1 true) = some r := by rw [if_neg (show ¬ (false = true) by decide)] at H; exact H
        clear H
        have H := H1
        clear H1
        have H' := Aside0.mk H
        clear H
        go_wp2_with (first | ((with_reducible refine gate_dst (N := 15) rfl ?_); refine Kd.R_lit Kd.string _ 9 ?hg (N := 15) ?hd (xs := ([a0] : List ByteArray)) (inner := [.string a0]) (ok := fun _ => True) (okp := fun _ => True) ?hr ?hp (fun _ hk => hk) trivial (Below.refl _ _) (Nat.le_refl _) (by simp) ?_; (case hd => rfl); (case hg => rfl); (case hr => first | (go_simp; done) | (go_simp; rfl)); (case hp => exact (Reps.one (show Kd.M Kd.string _ _ _ a0 [.string a0] from rfl) (Reps.none _ _))); intro v103 w10 ho11 hb hg_ hnew_; clear hg_ hnew_; (first | rw [← Ny102.out] at ho11 | (simp only [Int.reduceToNat] at ho11; rw [← Ny102.out] at ho11)); have n0_ := Aside0.mk (Kd.R_lower ho11 (below_size (by repeat (first | (with_reducible first | exact HB.out | apply below_alloc | apply pw_below_drewN | apply below_drew1) | exact HB.out)))); have n1_ := Aside0.mk (below_step (by repeat (first | (with_reducible first | exact HB.out | apply below_alloc | apply pw_below_drewN | apply below_drew1) | exact HB.out)) hb); clear HB; have HO104 := n0_; have HB := n1_; clear n0_ n1_; clear hb ho11; obtain ⟨Ao12, co12, eo12⟩ := Kd.R_slice HO104.out; subst eo12) | ((with_reducible refine gate_callee (f := 14) rfl ?_); refine goesL_ (some 16) rfl rfl Tryd.func14 (by kernel_rfl) rfl #[.slice Ao12 y102.length co12] rfl (by (try simp only [List.map_toArray, List.map_cons, List.map_nil]); first | done | rfl | (simp only [List.length_drop, List.length_take]; rfl)) ?_; (with_reducible refine (laws_short.calls k _ _ y102 false _ ?side1 ?side2 A5.out).mono ?_); (case side1 => repeat (first | exact (Kd.R_reads' HO104.out).2.2 | (with_reducible refine Kd.C_alloc ?_ _) | (with_reducible refine Kd.C_drewN ?_ _) | (with_reducible refine Kd.C_drew ?_))); (case side2 => exact (Kd.R_reads' HO104.out).2.1); rintro e w' ⟨rfl, ⟨nd, rfl⟩⟩; refine ⟨_, rfl, ?_⟩))
        go_meet
        case rel => exact ⟨_, (true), (by first | rfl | (simp; done) | (simp [*]; done) | (simp [bne_nil_]; done)), H', ⟨by first | omega | exact Nat.le_refl _⟩, ⟨by repeat (first | (with_reducible first | exact HB.out | apply below_alloc | apply pw_below_drewN | apply below_drew1) | exact HB.out)⟩⟩
    case rest =>
      clear HC4
      try clear c1
      try clear p2
      try clear c3
      try clear c3b0
      try clear c3b1
      try clear c6
      obtain ⟨kq, x21_3, rfl, HA, HJ3, HB⟩ := hcut
      cases kq with
      | zero => exact absurd HA.out (by simp [laws_FnNumberZeros.j0])
      | succ kj3 =>
        have H := HA.out
        clear HA
        simp only [laws_FnNumberZeros.j0] at H
        by_cases c13 : x21_3 = true
        · subst c13
          have H1 : (some true) = some r := by rw [if_pos rfl] at H; exact H
          clear H
          have H := H1
          clear H1
          obtain rfl := Option.some.inj H
          go_wp2
          go_ret
          exact ⟨by first | rfl | (simp [errW_none, errW_some] <;> rfl) | (simp [*, errW_none, errW_some] <;> rfl) | (simp [bne_nil_]; done), by repeat (first | (with_reducible first | exact HB.out | apply below_alloc | apply pw_below_drewN | apply below_drew1) | exact HB.out)⟩
        · replace c13 := Bool.eq_false_iff.mpr c13
          subst c13
          have H1 : (laws_FnNumberZeros.l0 kj3 a0 a1 a0 0) = some r := by rw [if_neg (show ¬ (false = true) by decide)] at H; exact H
          clear H
          have H := H1
          clear H1
          have H' := Aside0.mk H
          clear H
          go_wp2
          go_loopg [6] kj3 (fun kq v6 w' => ∃ (x6_2 : Int), v6 = .int .i64 x6_2 ∧ Aside0 (laws_FnNumberZeros.l0 kq a0 a1 a0 x6_2 = some r) ∧ Aside0 (kq ≤ kj3) ∧ Aside0 (Below w.heap.size w w'))
          case atStart => exact ⟨(0), (by first | rfl | (simp; done) | (simp [*]; done) | (simp [bne_nil_]; done)), H', ⟨Nat.le_refl _⟩, ⟨by repeat (first | (with_reducible first | exact HB.out | apply below_alloc | apply pw_below_drewN | apply below_drew1) | exact HB.out)⟩⟩
          case round =>
            clear H'
            try clear c1
            try clear p2
            try clear c3
            try clear c3b0
            try clear c3b1
            try clear c6
            try clear c13
            try clear p2
            obtain ⟨x6_2, rfl, HA, HK2, HB⟩ := hrel
            cases gk with
            | zero => exact absurd HA.out (by simp [laws_FnNumberZeros.l0])
            | succ k2 =>
              have H := HA.out
              clear HA
              simp only [laws_FnNumberZeros.l0] at H
              by_cases c14 : x6_2 < (a0.size : Int)
              · rw [if_pos c14] at H
                have c14b0 : decide (x6_2 < (a0.size : Int)) = true := decide_eq_true c14
                clear c14
                by_cases c15 : 0 ≤ x6_2
                · rw [if_pos c15] at H
                  have c15b0 : decide (0 ≤ x6_2) = true := decide_eq_true c15
                  clear c15
                  by_cases c17 : (bt a0 x6_2) < 48
                  · rw [if_pos c17] at H
                    have c17b0 : decide ((bt a0 x6_2) < 48) = true := decide_eq_true c17
                    clear c17
                    obtain rfl := Option.some.inj H
                    have p16 : 0 ≤ (x6_2 : Int) := of_decide_eq_true (by first | (with_reducible assumption) | assumption)
                    have q16 : x6_2 < (a0.size : Int) := of_decide_eq_true (by first | (with_reducible assumption) | assumption)
                    have hx16 := bt_at a0 x6_2
                    replace p16 := eq_true p16
                    replace q16 := eq_true q16
                    go_wp2
                    go_ret
                    exact ⟨by first | rfl | (simp [errW_none, errW_some] <;> rfl) | (simp [*, errW_none, errW_some] <;> rfl) | (simp [bne_nil_]; done), by repeat (first | (with_reducible first | exact HB.out | apply below_alloc | apply pw_below_drewN | apply below_drew1) | exact HB.out)⟩
                  · rw [if_neg c17] at H
                    have c17b0 : decide ((bt a0 x6_2) < 48) = false := decide_eq_false c17
                    clear c17
                    by_cases c19 : (bt a0 x6_2) > 57
                    · rw [if_pos c19] at H
                      have c19b0 : decide (57 < (bt a0 x6_2)) = true := decide_eq_true c19
                      clear c19
                      obtain rfl := Option.some.inj H
                      have p16 : 0 ≤ (x6_2 : Int) := of_decide_eq_true (by first | (with_reducible assumption) | assumption)
                      have q16 : x6_2 < (a0.size : Int) := of_decide_eq_true (by first | (with_reducible assumption) | assumption)
                      have hx16 := bt_at a0 x6_2
                      replace p16 := eq_true p16
                      replace q16 := eq_true q16
                      have p18 : 0 ≤ (x6_2 : Int) := of_decide_eq_true (by first | (with_reducible assumption) | assumption)
                      have q18 : x6_2 < (a0.size : Int) := of_decide_eq_true (by first | (with_reducible assumption) | assumption)
                      have hx18 := bt_at a0 x6_2
                      replace p18 := eq_true p18
                      replace q18 := eq_true q18
                      go_wp2
                      go_ret
                      exact ⟨by first | rfl | (simp [errW_none, errW_some] <;> rfl) | (simp [*, errW_none, errW_some] <;> rfl) | (simp [bne_nil_]; done), by repeat (first | (with_reducible first | exact HB.out | apply below_alloc | apply pw_below_drewN | apply below_drew1) | exact HB.out)⟩
                    · rw [if_neg c19] at H
                      have c19b0 : decide (57 < (bt a0 x6_2)) = false := decide_eq_false c19
                      clear c19
                      have H' := Aside0.mk H
                      clear H
                      have p16 : 0 ≤ (x6_2 : Int) := of_decide_eq_true (by first | (with_reducible assumption) | assumption)
                      have q16 : x6_2 < (a0.size : Int) := of_decide_eq_true (by first | (with_reducible assumption) | assumption)
                      have hx16 := bt_at a0 x6_2
                      replace p16 := eq_true p16
                      replace q16 := eq_true q16
                      have p18 : 0 ≤ (x6_2 : Int) := of_decide_eq_true (by first | (with_reducible assumption) | assumption)
                      have q18 : x6_2 < (a0.size : Int) := of_decide_eq_true (by first | (with_reducible assumption) | assumption)
                      have hx18 := bt_at a0 x6_2
                      replace p18 := eq_true p18
                      replace q18 := eq_true q18
                      go_wp2
                      go_roundg k2
                      case measure => have := HJ3.out; have := HK2.out; omega
                      case rel => exact ⟨(wrap64 (x6_2 + 1)), (by first | rfl | (simp; done) | (simp [*]; done) | (simp [bne_nil_]; done)), H', ⟨by have := HJ3.out; have := HK2.out; omega⟩, ⟨by repeat (first | (with_reducible first | exact HB.out | apply below_alloc | apply pw_below_drewN | apply below_drew1) | exact HB.out)⟩⟩
                · rw [if_neg c15] at H
                  exact absurd H (by simp)
              · rw [if_neg c14] at H
                have c14b0 : decide (x6_2 < (a0.size : Int)) = false := decide_eq_false c14
                clear c14
                have H' := Aside0.mk H
                clear H
                go_wp2
                go_loopg [5, 40] k2 (fun kq v5 v40 w' => ∃ (x5_3 : ByteArray) (x40_3 : Int), v5 = .string x5_3 ∧ v40 = .int .u8 x40_3 ∧ Aside0 (laws_FnNumberZeros.l1 kq a0 x5_3 a1 x40_3 = some r) ∧ Aside0 (kq ≤ k2) ∧ Aside0 (Below w.heap.size w w'))
                case atStart => exact ⟨(a0), (0), (by first | rfl | (simp; done) | (simp [*]; done) | (simp [bne_nil_]; done)), (by first | rfl | (simp; done) | (simp [*]; done) | (simp [bne_nil_]; done)), H', ⟨Nat.le_refl _⟩, ⟨by repeat (first | (with_reducible first | exact HB.out | apply below_alloc | apply pw_below_drewN | apply below_drew1) | exact HB.out)⟩⟩
                case round =>
                  clear H'
                  try clear c1
                  try clear p1
                  try clear q1
                  try clear hx1
                  try clear p2
                  try clear c3
                  try clear c3b0
                  try clear c3b1
                  try clear c6
                  try clear p6
                  try clear c13
                  try clear c14
                  try clear c14b0
                  try clear c15
                  try clear c15b0
                  try clear p16
                  try clear q16
                  try clear hx16
                  try clear c17
                  try clear c17b0
                  try clear p18
                  try clear q18
                  try clear hx18
                  try clear c19
                  try clear c19b0
                  try clear p16
                  try clear p18
                  try clear p2
                  try clear q16
                  try clear q18
                  obtain ⟨x5_3, x40_3, rfl, rfl, HA, HK3, HB⟩ := hrel
                  cases gk with
                  | zero => exact absurd HA.out (by simp [laws_FnNumberZeros.l1])
                  | succ k3 =>
                    have H := HA.out
                    clear HA
                    simp only [laws_FnNumberZeros.l1] at H
                    by_cases c20 : x40_3 < a1
                    · rw [if_pos c20] at H
                      have c20b0 : decide (x40_3 < a1) = true := decide_eq_true c20
                      clear c20
                      by_cases c21 : 1 + x5_3.size ≤ 9223372036854775807
                      · rw [if_pos c21] at H
                        have c21b0 := eq_true c21
                        have c21b1 : decide (1 + x5_3.size ≤ 9223372036854775807) = true := decide_eq_true c21
                        try have c21b2 : (9223372036854775807 < 1 + x5_3.size) = False := eq_false (Nat.not_lt.2 c21)
                        have H' := Aside0.mk H
                        clear H
                        go_wp2
                        go_roundg k3
                        case measure => have := HJ3.out; have := HK2.out; have := HK3.out; omega
                        case rel => exact ⟨((⟨#[48]⟩ : ByteArray) ++ x5_3), ((x40_3 + 1) % 256), (by first | rfl | (simp; done) | (simp [*]; done) | (simp [bne_nil_]; done)), (by first | rfl | (simp; done) | (simp [*]; done) | (simp [bne_nil_]; done)), H', ⟨by have := HJ3.out; have := HK2.out; have := HK3.out; omega⟩, ⟨by repeat (first | (with_reducible first | exact HB.out | apply below_alloc | apply pw_below_drewN | apply below_drew1) | exact HB.out)⟩⟩
                      · rw [if_neg c21] at H
                        exact absurd H (by simp)
                    · rw [if_neg c20] at H
                      have c20b0 : decide (x40_3 < a1) = false := decide_eq_false c20
                      clear c20
                      replace H := Option.bind_eq_some_iff.mp H
                      obtain ⟨⟨t106, t107, t108⟩, A220, H⟩ := H
                      replace H : ((Giv.impl_Number.f x5_3).bind fun bt110 => (if t108 = true then (if bt110.2.2 = true then (if (t106 == bt110.1 && (t107.toList == bt110.2.1.toList)) = true then (some (!t106)) else (some false)) else (some false)) else (some false))) = some r := H
                      have A22 := Aside0.mk A220
                      clear A220
                      replace H := Option.bind_eq_some_iff.mp H
                      obtain ⟨⟨t110, t111, t112⟩, A230, H⟩ := H
                      replace H : (if t108 = true then (if t112 = true then (if (t106 == t110 && (t107.toList == t111.toList)) = true then (some (!t106)) else (some false)) else (some false)) else (some false)) = some r := H
                      have A23 := Aside0.mk A230
                      clear A230
                      by_cases c24 : t108 = true
                      · subst c24
                        have H1 : (if t112 = true then (if (t106 == t110 && (t107.toList == t111.toList)) = true then (some (!t106)) else (some false)) else (some false)) = some r := by rw [if_pos rfl] at H; exact H
                        clear H
                        have H := H1
                        clear H1
                        by_cases c25 : t112 = true
                        · subst c25
                          have H1 : (if (t106 == t110 && (t107.toList == t111.toList)) = true then (some (!t106)) else (some false)) = some r := by rw [if_pos rfl] at H; exact H
                          clear H
                          have H := H1
                          clear H1
                          by_cases c26 : (t106 == t110 && (t107.toList == t111.toList)) = true
                          · rw [if_pos c26] at H
                            have c26b0 : (t106 == t110 && (t107.toList == t111.toList)) = true := c26
                            (try (have c26b1 : decide (t106 = t110 && (t107.toList == t111.toList)) = true := by simpa using c26))
                            (try (have c26b2 : (t106 == t110 && (t107.toList == t111.toList)) = true := by simpa using c26))
                            clear c26
                            obtain rfl := Option.some.inj H
                            go_wp2_with (first | ((with_reducible refine gate_callee (f := 15) rfl ?_); refine goesL_ (some 47) rfl rfl Tryd.func15 (by kernel_rfl) rfl #[.string a0] rfl (by (try simp only [List.map_toArray, List.map_cons, List.map_nil]); first | done | rfl | (simp only [List.length_drop, List.length_take]; rfl)) ?_; (with_reducible refine (Giv.impl_Number.calls a0 t106 t107 true _ A22.out (HLd.out.below (by repeat (first | (with_reducible first | exact HB.out | apply below_alloc | apply pw_below_drewN | apply below_drew1) | exact HB.out)))).mono ?_); rintro e w27 ⟨rfl, hb⟩; refine ⟨_, rfl, ?_⟩; have n0_ := Aside0.mk (below_step (by repeat (first | (with_reducible first | exact HB.out | apply below_alloc | apply pw_below_drewN | apply below_drew1) | exact HB.out)) hb); clear HB; have HB := n0_; clear n0_; (try clear hb); (try clear hb2); (try clear hk); (try clear hi)) | ((with_reducible refine gate_dst (N := 7) rfl ?_); refine box_event ?hg (N := 7) ?hd (cs := #[.bool false, .string (⟨#[]⟩ : ByteArray)]) (t := 24) ?hr ?_; (case hd => rfl); (case hg => rfl); (case hr => first | (go_simp; done) | (go_simp; rfl)); intro gb109 hg w28 hbox hb; have n0_ := Aside0.mk (below_step (by repeat (first | (with_reducible first | exact HB.out | apply below_alloc | apply pw_below_drewN | apply below_drew1) | exact HB.out)) hb); have n1_ := Aside0.mk (hbox); have n2_ := Aside0.mk ((by rw [hg]; exact (below_size (by repeat (first | (with_reducible first | exact HB.out | apply below_alloc | apply pw_below_drewN | apply below_drew1) | exact HB.out))) : w.heap.size ≤ gb109)); have n3_ := Aside0.mk ((by rw [hg]; exact (below_size (by repeat (first | (with_reducible first | exact HB.out | apply below_alloc | apply pw_below_drewN | apply below_drew1) | exact HB.out))) : w.heap.size ≤ gb109)); clear HB; have HB := n0_; have BK109 := n1_; have GW109 := n2_; have GE109 := n3_; clear n0_ n1_ n2_ n3_; clear hb hbox hg; have hcz29_0 : w28.cell? ⟨gb109, 0, none⟩ = some (.bool false) := (blk_cell BK109.out 0).trans rfl; have hcz29_1 : w28.cell? ⟨gb109, 1, none⟩ = some (.string (⟨#[]⟩ : ByteArray)) := (blk_cell BK109.out 1).trans rfl; have hfz29_0 := blk_frozen BK109.out 0; have hfz29_1 := blk_frozen BK109.out 1) | ((with_reducible refine gate_callee (f := 15) rfl ?_); refine goesL_ (some 52) rfl rfl Tryd.func15 (by kernel_rfl) rfl #[.string x5_3] rfl (by (try simp only [List.map_toArray, List.map_cons, List.map_nil]); first | done | rfl | (simp only [List.length_drop, List.length_take]; rfl)) ?_; (with_reducible refine (Giv.impl_Number.calls x5_3 t110 t111 true _ A23.out (HLd.out.below (by repeat (first | (with_reducible first | exact HB.out | apply below_alloc | apply pw_below_drewN | apply below_drew1 | refine below_set ?_ GE109.out) | exact HB.out)))).mono ?_); rintro e w30 ⟨rfl, hb⟩; refine ⟨_, rfl, ?_⟩; have n0_ := Aside0.mk (blk_below (g := gb109) (o := .cells #[.bool t106, .string t107] 24 (0, 0)) (by (with_reducible repeat (first | refine blk_drewN ?_ _ | refine blk_drew ?_ | refine blk_alloc ?_ _)); refine blk_put (cs := #[.bool t106, .string (⟨#[]⟩ : ByteArray)]) ?_ 1 _ rfl; (with_reducible repeat (first | refine blk_drewN ?_ _ | refine blk_drew ?_ | refine blk_alloc ?_ _)); refine blk_put (cs := #[.bool false, .string (⟨#[]⟩ : ByteArray)]) ?_ 0 _ rfl; (with_reducible repeat (first | refine blk_drewN ?_ _ | refine blk_drew ?_ | refine blk_alloc ?_ _)); exact BK109.out) hb); have n1_ := Aside0.mk (below_step (by repeat (first | (with_reducible first | exact HB.out | apply below_alloc | apply pw_below_drewN | apply below_drew1 | refine below_set ?_ GE109.out) | exact HB.out)) hb); clear BK109; clear HB; have BK109 := n0_; have HB := n1_; clear n0_ n1_; (try clear hb); (try clear hb2); (try clear hk); (try clear hi)) | ((with_reducible refine gate_dst (N := 9) rfl ?_); refine box_event ?hg (N := 9) ?hd (cs := #[.bool false, .string (⟨#[]⟩ : ByteArray)]) (t := 24) ?hr ?_; (case hd => rfl); (case hg => rfl); (case hr => first | (go_simp; done) | (go_simp; rfl)); intro gb113 hg w31 hbox hb; have n0_ := Aside0.mk (blk_below (g := gb109) (o := .cells #[.bool t106, .string t107] 24 (0, 0)) (by (with_reducible repeat (first | refine blk_drewN ?_ _ | refine blk_drew ?_ | refine blk_alloc ?_ _)); exact BK109.out) hb); have n1_ := Aside0.mk (below_step (by repeat (first | (with_reducible first | exact HB.out | apply below_alloc | apply pw_below_drewN | apply below_drew1 | refine below_set ?_ GE109.out) | exact HB.out)) hb); have n2_ := Aside0.mk (hbox); have n3_ := Aside0.mk ((by rw [hg]; exact (below_size (by repeat (first | (with_reducible first | exact HB.out | apply below_alloc | apply pw_below_drewN | apply below_drew1 | refine below_set ?_ GE109.out) | exact HB.out))) : w.heap.size ≤ gb113)); have n4_ := Aside0.mk ((by rw [hg]; exact (below_size (by repeat (first | (with_reducible first | exact HB.out | apply below_alloc | apply pw_below_drewN | apply below_drew1 | refine below_set ?_ GE109.out) | exact HB.out))) : w.heap.size ≤ gb113)); have n5_ := Aside0.mk ((by rw [hg]; exact Nat.ne_of_lt (blk_lt (g := gb109) (o := .cells #[.bool t106, .string t107] 24 (0, 0)) (by (with_reducible repeat (first | refine blk_drewN ?_ _ | refine blk_drew ?_ | refine blk_alloc ?_ _)); exact BK109.out)) : gb109 ≠ gb113)); have n6_ := Aside0.mk ((by rw [hg]; exact Nat.ne_of_gt (blk_lt (g := gb109) (o := .cells #[.bool t106, .string t107] 24 (0, 0)) (by (with_reducible repeat (first | refine blk_drewN ?_ _ | refine blk_drew ?_ | refine blk_alloc ?_ _)); exact BK109.out)) : gb113 ≠ gb109)); clear BK109; clear HB; have BK109 := n0_; have HB := n1_; have BK113 := n2_; have GW113 := n3_; have GE113 := n4_; have NB109_113 := n5_; have NB113_109 := n6_; clear n0_ n1_ n2_ n3_ n4_ n5_ n6_; clear hb hbox hg; have hnb32 := NB113_109.out; have hnc32 := NB109_113.out; have hcz33_0 : w31.cell? ⟨gb113, 0, none⟩ = some (.bool false) := (blk_cell BK113.out 0).trans rfl; have hcz33_1 : w31.cell? ⟨gb113, 1, none⟩ = some (.string (⟨#[]⟩ : ByteArray)) := (blk_cell BK113.out 1).trans rfl; have hfz33_0 := blk_frozen BK113.out 0; have hfz33_1 := blk_frozen BK113.out 1; have hcz34_0 : w31.cell? ⟨gb109, 0, none⟩ = some (.bool t106) := (blk_cell BK109.out 0).trans rfl; have hcz34_1 : w31.cell? ⟨gb109, 1, none⟩ = some (.string t107) := (blk_cell BK109.out 1).trans rfl; have hfz34_0 := blk_frozen BK109.out 0; have hfz34_1 := blk_frozen BK109.out 1))
                            go_ret
                            exact ⟨by first | rfl | (simp [errW_none, errW_some] <;> rfl) | (simp [*, errW_none, errW_some] <;> rfl) | (simp [bne_nil_]; done), by repeat (first | (with_reducible first | exact HB.out | apply below_alloc | apply pw_below_drewN | apply below_drew1 | refine below_set ?_ GE109.out | refine below_set ?_ GE113.out) | exact HB.out)⟩
                          · rw [if_neg c26] at H
                            have c26b0 : (t106 == t110 && (t107.toList == t111.toList)) = false := by simpa using c26
                            (try (have c26b1 : decide (t106 = t110 && (t107.toList == t111.toList)) = false := by simpa using c26))
                            (try (have c26b2 : (t106 == t110 && (t107.toList == t111.toList)) = false := by simpa using c26))
                            (try (have c26b3 : ¬ (t106 = t110 && (t107.toList == t111.toList)) := by simpa using c26))
                            clear c26
                            obtain rfl := Option.some.inj H
                            go_wp2_with (first | ((with_reducible refine gate_callee (f := 15) rfl ?_); refine goesL_ (some 47) rfl rfl Tryd.func15 (by kernel_rfl) rfl #[.string a0] rfl (by (try simp only [List.map_toArray, List.map_cons, List.map_nil]); first | done | rfl | (simp only [List.length_drop, List.length_take]; rfl)) ?_; (with_reducible refine (Giv.impl_Number.calls a0 t106 t107 true _ A22.out (HLd.out.below (by repeat (first | (with_reducible first | exact HB.out | apply below_alloc | apply pw_below_drewN | apply below_drew1) | exact HB.out)))).mono ?_); rintro e w35 ⟨rfl, hb⟩; refine ⟨_, rfl, ?_⟩; have n0_ := Aside0.mk (below_step (by repeat (first | (with_reducible first | exact HB.out | apply below_alloc | apply pw_below_drewN | apply below_drew1) | exact HB.out)) hb); clear HB; have HB := n0_; clear n0_; (try clear hb); (try clear hb2); (try clear hk); (try clear hi)) | ((with_reducible refine gate_dst (N := 7) rfl ?_); refine box_event ?hg (N := 7) ?hd (cs := #[.bool false, .string (⟨#[]⟩ : ByteArray)]) (t := 24) ?hr ?_; (case hd => rfl); (case hg => rfl); (case hr => first | (go_simp; done) | (go_simp; rfl)); intro gb109 hg w36 hbox hb; have n0_ := Aside0.mk (below_step (by repeat (first | (with_reducible first | exact HB.out | apply below_alloc | apply pw_below_drewN | apply below_drew1) | exact HB.out)) hb); have n1_ := Aside0.mk (hbox); have n2_ := Aside0.mk ((by rw [hg]; exact (below_size (by repeat (first | (with_reducible first | exact HB.out | apply below_alloc | apply pw_below_drewN | apply below_drew1) | exact HB.out))) : w.heap.size ≤ gb109)); have n3_ := Aside0.mk ((by rw [hg]; exact (below_size (by repeat (first | (with_reducible first | exact HB.out | apply below_alloc | apply pw_below_drewN | apply below_drew1) | exact HB.out))) : w.heap.size ≤ gb109)); clear HB; have HB := n0_; have BK109 := n1_; have GW109 := n2_; have GE109 := n3_; clear n0_ n1_ n2_ n3_; clear hb hbox hg; have hcz37_0 : w36.cell? ⟨gb109, 0, none⟩ = some (.bool false) := (blk_cell BK109.out 0).trans rfl; have hcz37_1 : w36.cell? ⟨gb109, 1, none⟩ = some (.string (⟨#[]⟩ : ByteArray)) := (blk_cell BK109.out 1).trans rfl; have hfz37_0 := blk_frozen BK109.out 0; have hfz37_1 := blk_frozen BK109.out 1) | ((with_reducible refine gate_callee (f := 15) rfl ?_); refine goesL_ (some 52) rfl rfl Tryd.func15 (by kernel_rfl) rfl #[.string x5_3] rfl (by (try simp only [List.map_toArray, List.map_cons, List.map_nil]); first | done | rfl | (simp only [List.length_drop, List.length_take]; rfl)) ?_; (with_reducible refine (Giv.impl_Number.calls x5_3 t110 t111 true _ A23.out (HLd.out.below (by repeat (first | (with_reducible first | exact HB.out | apply below_alloc | apply pw_below_drewN | apply below_drew1 | refine below_set ?_ GE109.out) | exact HB.out)))).mono ?_); rintro e w38 ⟨rfl, hb⟩; refine ⟨_, rfl, ?_⟩; have n0_ := Aside0.mk (blk_below (g := gb109) (o := .cells #[.bool t106, .string t107] 24 (0, 0)) (by (with_reducible repeat (first | refine blk_drewN ?_ _ | refine blk_drew ?_ | refine blk_alloc ?_ _)); refine blk_put (cs := #[.bool t106, .string (⟨#[]⟩ : ByteArray)]) ?_ 1 _ rfl; (with_reducible repeat (first | refine blk_drewN ?_ _ | refine blk_drew ?_ | refine blk_alloc ?_ _)); refine blk_put (cs := #[.bool false, .string (⟨#[]⟩ : ByteArray)]) ?_ 0 _ rfl; (with_reducible repeat (first | refine blk_drewN ?_ _ | refine blk_drew ?_ | refine blk_alloc ?_ _)); exact BK109.out) hb); have n1_ := Aside0.mk (below_step (by repeat (first | (with_reducible first | exact HB.out | apply below_alloc | apply pw_below_drewN | apply below_drew1 | refine below_set ?_ GE109.out) | exact HB.out)) hb); clear BK109; clear HB; have BK109 := n0_; have HB := n1_; clear n0_ n1_; (try clear hb); (try clear hb2); (try clear hk); (try clear hi)) | ((with_reducible refine gate_dst (N := 9) rfl ?_); refine box_event ?hg (N := 9) ?hd (cs := #[.bool false, .string (⟨#[]⟩ : ByteArray)]) (t := 24) ?hr ?_; (case hd => rfl); (case hg => rfl); (case hr => first | (go_simp; done) | (go_simp; rfl)); intro gb113 hg w39 hbox hb; have n0_ := Aside0.mk (blk_below (g := gb109) (o := .cells #[.bool t106, .string t107] 24 (0, 0)) (by (with_reducible repeat (first | refine blk_drewN ?_ _ | refine blk_drew ?_ | refine blk_alloc ?_ _)); exact BK109.out) hb); have n1_ := Aside0.mk (below_step (by repeat (first | (with_reducible first | exact HB.out | apply below_alloc | apply pw_below_drewN | apply below_drew1 | refine below_set ?_ GE109.out) | exact HB.out)) hb); have n2_ := Aside0.mk (hbox); have n3_ := Aside0.mk ((by rw [hg]; exact (below_size (by repeat (first | (with_reducible first | exact HB.out | apply below_alloc | apply pw_below_drewN | apply below_drew1 | refine below_set ?_ GE109.out) | exact HB.out))) : w.heap.size ≤ gb113)); have n4_ := Aside0.mk ((by rw [hg]; exact (below_size (by repeat (first | (with_reducible first | exact HB.out | apply below_alloc | apply pw_below_drewN | apply below_drew1 | refine below_set ?_ GE109.out) | exact HB.out))) : w.heap.size ≤ gb113)); have n5_ := Aside0.mk ((by rw [hg]; exact Nat.ne_of_lt (blk_lt (g := gb109) (o := .cells #[.bool t106, .string t107] 24 (0, 0)) (by (with_reducible repeat (first | refine blk_drewN ?_ _ | refine blk_drew ?_ | refine blk_alloc ?_ _)); exact BK109.out)) : gb109 ≠ gb113)); have n6_ := Aside0.mk ((by rw [hg]; exact Nat.ne_of_gt (blk_lt (g := gb109) (o := .cells #[.bool t106, .string t107] 24 (0, 0)) (by (with_reducible repeat (first | refine blk_drewN ?_ _ | refine blk_drew ?_ | refine blk_alloc ?_ _)); exact BK109.out)) : gb113 ≠ gb109)); clear BK109; clear HB; have BK109 := n0_; have HB := n1_; have BK113 := n2_; have GW113 := n3_; have GE113 := n4_; have NB109_113 := n5_; have NB113_109 := n6_; clear n0_ n1_ n2_ n3_ n4_ n5_ n6_; clear hb hbox hg; have hnb40 := NB113_109.out; have hnc40 := NB109_113.out; have hcz41_0 : w39.cell? ⟨gb113, 0, none⟩ = some (.bool false) := (blk_cell BK113.out 0).trans rfl; have hcz41_1 : w39.cell? ⟨gb113, 1, none⟩ = some (.string (⟨#[]⟩ : ByteArray)) := (blk_cell BK113.out 1).trans rfl; have hfz41_0 := blk_frozen BK113.out 0; have hfz41_1 := blk_frozen BK113.out 1; have hcz42_0 : w39.cell? ⟨gb109, 0, none⟩ = some (.bool t106) := (blk_cell BK109.out 0).trans rfl; have hcz42_1 : w39.cell? ⟨gb109, 1, none⟩ = some (.string t107) := (blk_cell BK109.out 1).trans rfl; have hfz42_0 := blk_frozen BK109.out 0; have hfz42_1 := blk_frozen BK109.out 1))
                            go_ret
                            exact ⟨by first | rfl | (simp [errW_none, errW_some] <;> rfl) | (simp [*, errW_none, errW_some] <;> rfl) | (simp [bne_nil_]; done), by repeat (first | (with_reducible first | exact HB.out | apply below_alloc | apply pw_below_drewN | apply below_drew1 | refine below_set ?_ GE109.out | refine below_set ?_ GE113.out) | exact HB.out)⟩
                        · replace c25 := Bool.eq_false_iff.mpr c25
                          subst c25
                          have H1 : (some false) = some r := by rw [if_neg (show ¬ (false = true) by decide)] at H; exact H
                          clear H
                          have H := H1
                          clear H1
                          obtain rfl := Option.some.inj H
                          go_wp2_with (first | ((with_reducible refine gate_callee (f := 15) rfl ?_); refine goesL_ (some 47) rfl rfl Tryd.func15 (by kernel_rfl) rfl #[.string a0] rfl (by (try simp only [List.map_toArray, List.map_cons, List.map_nil]); first | done | rfl | (simp only [List.length_drop, List.length_take]; rfl)) ?_; (with_reducible refine (Giv.impl_Number.calls a0 t106 t107 true _ A22.out (HLd.out.below (by repeat (first | (with_reducible first | exact HB.out | apply below_alloc | apply pw_below_drewN | apply below_drew1) | exact HB.out)))).mono ?_); rintro e w43 ⟨rfl, hb⟩; refine ⟨_, rfl, ?_⟩; have n0_ := Aside0.mk (below_step (by repeat (first | (with_reducible first | exact HB.out | apply below_alloc | apply pw_below_drewN | apply below_drew1) | exact HB.out)) hb); clear HB; have HB := n0_; clear n0_; (try clear hb); (try clear hb2); (try clear hk); (try clear hi)) | ((with_reducible refine gate_dst (N := 7) rfl ?_); refine box_event ?hg (N := 7) ?hd (cs := #[.bool false, .string (⟨#[]⟩ : ByteArray)]) (t := 24) ?hr ?_; (case hd => rfl); (case hg => rfl); (case hr => first | (go_simp; done) | (go_simp; rfl)); intro gb109 hg w44 hbox hb; have n0_ := Aside0.mk (below_step (by repeat (first | (with_reducible first | exact HB.out | apply below_alloc | apply pw_below_drewN | apply below_drew1) | exact HB.out)) hb); have n1_ := Aside0.mk (hbox); have n2_ := Aside0.mk ((by rw [hg]; exact (below_size (by repeat (first | (with_reducible first | exact HB.out | apply below_alloc | apply pw_below_drewN | apply below_drew1) | exact HB.out))) : w.heap.size ≤ gb109)); have n3_ := Aside0.mk ((by rw [hg]; exact (below_size (by repeat (first | (with_reducible first | exact HB.out | apply below_alloc | apply pw_below_drewN | apply below_drew1) | exact HB.out))) : w.heap.size ≤ gb109)); clear HB; have HB := n0_; have BK109 := n1_; have GW109 := n2_; have GE109 := n3_; clear n0_ n1_ n2_ n3_; clear hb hbox hg; have hcz45_0 : w44.cell? ⟨gb109, 0, none⟩ = some (.bool false) := (blk_cell BK109.out 0).trans rfl; have hcz45_1 : w44.cell? ⟨gb109, 1, none⟩ = some (.string (⟨#[]⟩ : ByteArray)) := (blk_cell BK109.out 1).trans rfl; have hfz45_0 := blk_frozen BK109.out 0; have hfz45_1 := blk_frozen BK109.out 1) | ((with_reducible refine gate_callee (f := 15) rfl ?_); refine goesL_ (some 52) rfl rfl Tryd.func15 (by kernel_rfl) rfl #[.string x5_3] rfl (by (try simp only [List.map_toArray, List.map_cons, List.map_nil]); first | done | rfl | (simp only [List.length_drop, List.length_take]; rfl)) ?_; (with_reducible refine (Giv.impl_Number.calls x5_3 t110 t111 false _ A23.out (HLd.out.below (by repeat (first | (with_reducible first | exact HB.out | apply below_alloc | apply pw_below_drewN | apply below_drew1 | refine below_set ?_ GE109.out) | exact HB.out)))).mono ?_); rintro e w46 ⟨rfl, hb⟩; refine ⟨_, rfl, ?_⟩; have n0_ := Aside0.mk (blk_below (g := gb109) (o := .cells #[.bool t106, .string t107] 24 (0, 0)) (by (with_reducible repeat (first | refine blk_drewN ?_ _ | refine blk_drew ?_ | refine blk_alloc ?_ _)); refine blk_put (cs := #[.bool t106, .string (⟨#[]⟩ : ByteArray)]) ?_ 1 _ rfl; (with_reducible repeat (first | refine blk_drewN ?_ _ | refine blk_drew ?_ | refine blk_alloc ?_ _)); refine blk_put (cs := #[.bool false, .string (⟨#[]⟩ : ByteArray)]) ?_ 0 _ rfl; (with_reducible repeat (first | refine blk_drewN ?_ _ | refine blk_drew ?_ | refine blk_alloc ?_ _)); exact BK109.out) hb); have n1_ := Aside0.mk (below_step (by repeat (first | (with_reducible first | exact HB.out | apply below_alloc | apply pw_below_drewN | apply below_drew1 | refine below_set ?_ GE109.out) | exact HB.out)) hb); clear BK109; clear HB; have BK109 := n0_; have HB := n1_; clear n0_ n1_; (try clear hb); (try clear hb2); (try clear hk); (try clear hi)) | ((with_reducible refine gate_dst (N := 9) rfl ?_); refine box_event ?hg (N := 9) ?hd (cs := #[.bool false, .string (⟨#[]⟩ : ByteArray)]) (t := 24) ?hr ?_; (case hd => rfl); (case hg => rfl); (case hr => first | (go_simp; done) | (go_simp; rfl)); intro gb113 hg w47 hbox hb; have n0_ := Aside0.mk (blk_below (g := gb109) (o := .cells #[.bool t106, .string t107] 24 (0, 0)) (by (with_reducible repeat (first | refine blk_drewN ?_ _ | refine blk_drew ?_ | refine blk_alloc ?_ _)); exact BK109.out) hb); have n1_ := Aside0.mk (below_step (by repeat (first | (with_reducible first | exact HB.out | apply below_alloc | apply pw_below_drewN | apply below_drew1 | refine below_set ?_ GE109.out) | exact HB.out)) hb); have n2_ := Aside0.mk (hbox); have n3_ := Aside0.mk ((by rw [hg]; exact (below_size (by repeat (first | (with_reducible first | exact HB.out | apply below_alloc | apply pw_below_drewN | apply below_drew1 | refine below_set ?_ GE109.out) | exact HB.out))) : w.heap.size ≤ gb113)); have n4_ := Aside0.mk ((by rw [hg]; exact (below_size (by repeat (first | (with_reducible first | exact HB.out | apply below_alloc | apply pw_below_drewN | apply below_drew1 | refine below_set ?_ GE109.out) | exact HB.out))) : w.heap.size ≤ gb113)); have n5_ := Aside0.mk ((by rw [hg]; exact Nat.ne_of_lt (blk_lt (g := gb109) (o := .cells #[.bool t106, .string t107] 24 (0, 0)) (by (with_reducible repeat (first | refine blk_drewN ?_ _ | refine blk_drew ?_ | refine blk_alloc ?_ _)); exact BK109.out)) : gb109 ≠ gb113)); have n6_ := Aside0.mk ((by rw [hg]; exact Nat.ne_of_gt (blk_lt (g := gb109) (o := .cells #[.bool t106, .string t107] 24 (0, 0)) (by (with_reducible repeat (first | refine blk_drewN ?_ _ | refine blk_drew ?_ | refine blk_alloc ?_ _)); exact BK109.out)) : gb113 ≠ gb109)); clear BK109; clear HB; have BK109 := n0_; have HB := n1_; have BK113 := n2_; have GW113 := n3_; have GE113 := n4_; have NB109_113 := n5_; have NB113_109 := n6_; clear n0_ n1_ n2_ n3_ n4_ n5_ n6_; clear hb hbox hg; have hnb48 := NB113_109.out; have hnc48 := NB109_113.out; have hcz49_0 : w47.cell? ⟨gb113, 0, none⟩ = some (.bool false) := (blk_cell BK113.out 0).trans rfl; have hcz49_1 : w47.cell? ⟨gb113, 1, none⟩ = some (.string (⟨#[]⟩ : ByteArray)) := (blk_cell BK113.out 1).trans rfl; have hfz49_0 := blk_frozen BK113.out 0; have hfz49_1 := blk_frozen BK113.out 1))
                          go_ret
                          exact ⟨by first | rfl | (simp [errW_none, errW_some] <;> rfl) | (simp [*, errW_none, errW_some] <;> rfl) | (simp [bne_nil_]; done), by repeat (first | (with_reducible first | exact HB.out | apply below_alloc | apply pw_below_drewN | apply below_drew1 | refine below_set ?_ GE109.out | refine below_set ?_ GE113.out) | exact HB.out)⟩
                      · replace c24 := Bool.eq_false_iff.mpr c24
                        subst c24
                        have H1 : (some false) = some r := by rw [if_neg (show ¬ (false = true) by decide)] at H; exact H
                        clear H
                        have H := H1
                        clear H1
                        obtain rfl := Option.some.inj H
                        go_wp2_with (first | ((with_reducible refine gate_callee (f := 15) rfl ?_); refine goesL_ (some 47) rfl rfl Tryd.func15 (by kernel_rfl) rfl #[.string a0] rfl (by (try simp only [List.map_toArray, List.map_cons, List.map_nil]); first | done | rfl | (simp only [List.length_drop, List.length_take]; rfl)) ?_; (with_reducible refine (Giv.impl_Number.calls a0 t106 t107 false _ A22.out (HLd.out.below (by repeat (first | (with_reducible first | exact HB.out | apply below_alloc | apply pw_below_drewN | apply below_drew1) | exact HB.out)))).mono ?_); rintro e w50 ⟨rfl, hb⟩; refine ⟨_, rfl, ?_⟩; have n0_ := Aside0.mk (below_step (by repeat (first | (with_reducible first | exact HB.out | apply below_alloc | apply pw_below_drewN | apply below_drew1) | exact HB.out)) hb); clear HB; have HB := n0_; clear n0_; (try clear hb); (try clear hb2); (try clear hk); (try clear hi)) | ((with_reducible refine gate_dst (N := 7) rfl ?_); refine box_event ?hg (N := 7) ?hd (cs := #[.bool false, .string (⟨#[]⟩ : ByteArray)]) (t := 24) ?hr ?_; (case hd => rfl); (case hg => rfl); (case hr => first | (go_simp; done) | (go_simp; rfl)); intro gb109 hg w51 hbox hb; have n0_ := Aside0.mk (below_step (by repeat (first | (with_reducible first | exact HB.out | apply below_alloc | apply pw_below_drewN | apply below_drew1) | exact HB.out)) hb); have n1_ := Aside0.mk (hbox); have n2_ := Aside0.mk ((by rw [hg]; exact (below_size (by repeat (first | (with_reducible first | exact HB.out | apply below_alloc | apply pw_below_drewN | apply below_drew1) | exact HB.out))) : w.heap.size ≤ gb109)); have n3_ := Aside0.mk ((by rw [hg]; exact (below_size (by repeat (first | (with_reducible first | exact HB.out | apply below_alloc | apply pw_below_drewN | apply below_drew1) | exact HB.out))) : w.heap.size ≤ gb109)); clear HB; have HB := n0_; have BK109 := n1_; have GW109 := n2_; have GE109 := n3_; clear n0_ n1_ n2_ n3_; clear hb hbox hg; have hcz52_0 : w51.cell? ⟨gb109, 0, none⟩ = some (.bool false) := (blk_cell BK109.out 0).trans rfl; have hcz52_1 : w51.cell? ⟨gb109, 1, none⟩ = some (.string (⟨#[]⟩ : ByteArray)) := (blk_cell BK109.out 1).trans rfl; have hfz52_0 := blk_frozen BK109.out 0; have hfz52_1 := blk_frozen BK109.out 1) | ((with_reducible refine gate_callee (f := 15) rfl ?_); refine goesL_ (some 52) rfl rfl Tryd.func15 (by kernel_rfl) rfl #[.string x5_3] rfl (by (try simp only [List.map_toArray, List.map_cons, List.map_nil]); first | done | rfl | (simp only [List.length_drop, List.length_take]; rfl)) ?_; (with_reducible refine (Giv.impl_Number.calls x5_3 t110 t111 t112 _ A23.out (HLd.out.below (by repeat (first | (with_reducible first | exact HB.out | apply below_alloc | apply pw_below_drewN | apply below_drew1 | refine below_set ?_ GE109.out) | exact HB.out)))).mono ?_); rintro e w53 ⟨rfl, hb⟩; refine ⟨_, rfl, ?_⟩; have n0_ := Aside0.mk (blk_below (g := gb109) (o := .cells #[.bool t106, .string t107] 24 (0, 0)) (by (with_reducible repeat (first | refine blk_drewN ?_ _ | refine blk_drew ?_ | refine blk_alloc ?_ _)); refine blk_put (cs := #[.bool t106, .string (⟨#[]⟩ : ByteArray)]) ?_ 1 _ rfl; (with_reducible repeat (first | refine blk_drewN ?_ _ | refine blk_drew ?_ | refine blk_alloc ?_ _)); refine blk_put (cs := #[.bool false, .string (⟨#[]⟩ : ByteArray)]) ?_ 0 _ rfl; (with_reducible repeat (first | refine blk_drewN ?_ _ | refine blk_drew ?_ | refine blk_alloc ?_ _)); exact BK109.out) hb); have n1_ := Aside0.mk (below_step (by repeat (first | (with_reducible first | exact HB.out | apply below_alloc | apply pw_below_drewN | apply below_drew1 | refine below_set ?_ GE109.out) | exact HB.out)) hb); clear BK109; clear HB; have BK109 := n0_; have HB := n1_; clear n0_ n1_; (try clear hb); (try clear hb2); (try clear hk); (try clear hi)) | ((with_reducible refine gate_dst (N := 9) rfl ?_); refine box_event ?hg (N := 9) ?hd (cs := #[.bool false, .string (⟨#[]⟩ : ByteArray)]) (t := 24) ?hr ?_; (case hd => rfl); (case hg => rfl); (case hr => first | (go_simp; done) | (go_simp; rfl)); intro gb113 hg w54 hbox hb; have n0_ := Aside0.mk (blk_below (g := gb109) (o := .cells #[.bool t106, .string t107] 24 (0, 0)) (by (with_reducible repeat (first | refine blk_drewN ?_ _ | refine blk_drew ?_ | refine blk_alloc ?_ _)); exact BK109.out) hb); have n1_ := Aside0.mk (below_step (by repeat (first | (with_reducible first | exact HB.out | apply below_alloc | apply pw_below_drewN | apply below_drew1 | refine below_set ?_ GE109.out) | exact HB.out)) hb); have n2_ := Aside0.mk (hbox); have n3_ := Aside0.mk ((by rw [hg]; exact (below_size (by repeat (first | (with_reducible first | exact HB.out | apply below_alloc | apply pw_below_drewN | apply below_drew1 | refine below_set ?_ GE109.out) | exact HB.out))) : w.heap.size ≤ gb113)); have n4_ := Aside0.mk ((by rw [hg]; exact (below_size (by repeat (first | (with_reducible first | exact HB.out | apply below_alloc | apply pw_below_drewN | apply below_drew1 | refine below_set ?_ GE109.out) | exact HB.out))) : w.heap.size ≤ gb113)); have n5_ := Aside0.mk ((by rw [hg]; exact Nat.ne_of_lt (blk_lt (g := gb109) (o := .cells #[.bool t106, .string t107] 24 (0, 0)) (by (with_reducible repeat (first | refine blk_drewN ?_ _ | refine blk_drew ?_ | refine blk_alloc ?_ _)); exact BK109.out)) : gb109 ≠ gb113)); have n6_ := Aside0.mk ((by rw [hg]; exact Nat.ne_of_gt (blk_lt (g := gb109) (o := .cells #[.bool t106, .string t107] 24 (0, 0)) (by (with_reducible repeat (first | refine blk_drewN ?_ _ | refine blk_drew ?_ | refine blk_alloc ?_ _)); exact BK109.out)) : gb113 ≠ gb109)); clear BK109; clear HB; have BK109 := n0_; have HB := n1_; have BK113 := n2_; have GW113 := n3_; have GE113 := n4_; have NB109_113 := n5_; have NB113_109 := n6_; clear n0_ n1_ n2_ n3_ n4_ n5_ n6_; clear hb hbox hg; have hnb55 := NB113_109.out; have hnc55 := NB109_113.out; have hcz56_0 : w54.cell? ⟨gb113, 0, none⟩ = some (.bool false) := (blk_cell BK113.out 0).trans rfl; have hcz56_1 : w54.cell? ⟨gb113, 1, none⟩ = some (.string (⟨#[]⟩ : ByteArray)) := (blk_cell BK113.out 1).trans rfl; have hfz56_0 := blk_frozen BK113.out 0; have hfz56_1 := blk_frozen BK113.out 1))
                        go_ret
                        exact ⟨by first | rfl | (simp [errW_none, errW_some] <;> rfl) | (simp [*, errW_none, errW_some] <;> rfl) | (simp [bne_nil_]; done), by repeat (first | (with_reducible first | exact HB.out | apply below_alloc | apply pw_below_drewN | apply below_drew1 | refine below_set ?_ GE109.out | refine below_set ?_ GE113.out) | exact HB.out)⟩

/-- THE ONE PURE STATEMENT of laws_FnNumberZeros: yours. -/
def laws_FnNumberZeros.Pure : Prop := ∀ (a0 : ByteArray) (a1 : Int), a0.size ≤ 140737488351232 → (Lit.int .u8 a1).wf = true → ∃ k, laws_FnNumberZeros.f k a0 a1 = some true

end Go.Proofs.YtfgechefinijbaaDoor.QZ
