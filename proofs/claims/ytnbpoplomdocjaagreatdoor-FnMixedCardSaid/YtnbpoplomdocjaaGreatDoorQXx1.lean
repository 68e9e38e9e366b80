-- Written by a working copy of the kit's print program, turned at a few places by wip/tool/mkprint.py. Lean checks it.
import Derived.Test.YtnbpoplomdocjaaGreatDoorQXx0
namespace Go.Proofs.YtnbpoplomdocjaaGreatDoor.QX
open Go.RowKit Go.Proofs.YtnbpoplomdocjaaGreatDoorW.PrintWords Go.Proofs.YtnbpoplomdocjaaGreatDoorW.PrintLast Go.Proofs.YtnbpoplomdocjaaGreatDoorW.PrintMore
attribute [local go_sem] max2_int min2_int max_two min_two max_three min_three max_four min_four   -- for this text's walks alone
set_option linter.unusedVariables false
set_option linter.unusedSimpArgs false

/-! ### laws_short: function 4 -/
def laws_short.l0 : Nat → List ByteArray → List ByteArray → Int → Int → Option (Bool)
  | 0, _, _, _, _ => none
  | k + 1, x0, x5, x6, x7 => if x7 < x6 then (if 0 ≤ x7 then (if x7 < (x5.length : Int) then (if ((rdOf ByteArray.empty x5 x7).size : Int) > 1500 then (some false) else (laws_short.l0 k x0 x5 x6 (wrap64 (x7 + 1)))) else (none)) else (none)) else (some (decide ((x0.length : Int) ≤ 150)))
def laws_short.f (k : Nat) (l0 : List ByteArray) : Option (Bool) := laws_short.l0 k l0 l0 (l0.length : Int) 0
theorem laws_short.mono_l : ∀ k, (∀ y0 y1 y2 y3, LeO (laws_short.l0 k y0 y1 y2 y3) (laws_short.l0 (k + 1) y0 y1 y2 y3))
  | 0 => fun _ _ _ _ r h => by simp [laws_short.l0] at h
  | k + 1 => by
    have ih0 := laws_short.mono_l k
    · intro y0 y1 y2 y3
      unfold laws_short.l0
      repeat' first
      | (with_reducible exact ih0 _ _ _ _)
      | (with_reducible exact LeO.refl _)
      | (with_reducible exact LeO.none _)
      | (with_reducible refine LeO.ite ?_ ?_)
      | (with_reducible refine LeO.bind ?_ (fun _ => ?_))
      | exact ih0 _ _ _ _
      | exact LeO.none _
      | refine LeO.ite ?_ ?_
      | refine LeO.bind ?_ (fun _ => ?_)
theorem laws_short.mono : ∀ a0 k, LeO (laws_short.f k a0) (laws_short.f (k + 1) a0) := by
  intro a0 k
  have ih0 := laws_short.mono_l k
  unfold laws_short.f
  repeat' first
      | (with_reducible exact ih0 _ _ _ _)
      | (with_reducible exact LeO.refl _)
      | (with_reducible exact LeO.none _)
      | (with_reducible refine LeO.ite ?_ ?_)
      | (with_reducible refine LeO.bind ?_ (fun _ => ?_))
      | exact ih0 _ _ _ _
      | exact LeO.none _
      | refine LeO.ite ?_ ?_
      | refine LeO.bind ?_ (fun _ => ?_)
set_option maxHeartbeats 8000000 in
set_option maxRecDepth 100000 in
theorem laws_short.calls (k : Nat) (A0 : Option Addr) (c0 : Nat) (l0 : List ByteArray) (r : Bool) (w : World) (hr0 : Kd.C Kd.string w A0 l0.length l0) (hc0 : l0.length ≤ c0) (h : laws_short.f k l0 = some r) :
    Calls Tryz.prog 4 #[.slice A0 l0.length c0] w fun e w' => e = .returned (.bool r) ∧ Drawn0 w w' := by
  have HR0 := Aside0.mk hr0
  have HC0 := Aside0.mk hc0
  clear hr0 hc0
  have H : (laws_short.l0 k l0 l0 (l0.length : Int) 0) = some r := h
  clear h
  have H' := Aside0.mk H
  clear H
  go_enter Tryz.func4, Tryz.ntmps4
  go_wp2
  go_loopg [7] k (fun kq v7 w' => ∃ (x7_1 : Int), v7 = .int .i64 x7_1 ∧ Aside0 (laws_short.l0 kq l0 l0 (l0.length : Int) x7_1 = some r) ∧ Aside0 (kq ≤ k) ∧ Drawn0 w w')
  case atStart => exact ⟨(0), (by first | rfl | (simp; done) | (simp [*]; done) | (simp [bne_nil_]; done)), H', ⟨Nat.le_refl _⟩, by repeat (first | exact Drawn0.refl _ | apply Drawn0.step)⟩
  case round =>
    clear H'
    obtain ⟨x7_1, rfl, HA, HK1, ⟨m1, rfl⟩⟩ := hrel
    cases gk with
    | zero => exact absurd HA.out (by simp [laws_short.l0])
    | succ k1 =>
      have H := HA.out
      clear HA
      simp only [laws_short.l0] at H
      by_cases c2 : x7_1 < (l0.length : Int)
      · rw [if_pos c2] at H
        have c2b0 : decide (x7_1 < (l0.length : Int)) = true := decide_eq_true c2
        clear c2
        by_cases c3 : 0 ≤ x7_1
        · rw [if_pos c3] at H
          have c3b0 : decide (0 ≤ x7_1) = true := decide_eq_true c3
          clear c3
          by_cases c4 : x7_1 < (l0.length : Int)
          · rw [if_pos c4] at H
            have c4b0 : decide (x7_1 < (l0.length : Int)) = true := decide_eq_true c4
            clear c4
            by_cases c5 : ((rdOf ByteArray.empty l0 x7_1).size : Int) > 1500
            · rw [if_pos c5] at H
              have c5b0 : decide (1500 < ((rdOf ByteArray.empty l0 x7_1).size : Int)) = true := decide_eq_true c5
              have c5b1 : decide (1500 < (rdOf ByteArray.empty l0 x7_1).size) = true := decide_eq_true (by omega)
              clear c5
              obtain rfl := Option.some.inj H
              have p101 : 0 ≤ (x7_1 : Int) := of_decide_eq_true (by first | (with_reducible assumption) | assumption)
              have q101 : x7_1 < (l0.length : Int) := of_decide_eq_true (by first | (with_reducible assumption) | assumption)
              obtain ⟨ad101, e101, hx101_0⟩ := Kd.at_string HR0.out x7_1 p101 q101
              cases e101
              replace p101 := eq_true p101
              replace q101 := eq_true q101
              go_wp2
              go_ret
              exact ⟨by first | rfl | (simp; done) | (simp [*]; done) | (simp [bne_nil_]; done), by repeat (first | exact Drawn0.refl _ | apply Drawn0.step)⟩
            · rw [if_neg c5] at H
              have c5b0 : decide (1500 < ((rdOf ByteArray.empty l0 x7_1).size : Int)) = false := decide_eq_false c5
              have c5b1 : decide (1500 < (rdOf ByteArray.empty l0 x7_1).size) = false := decide_eq_false (by omega)
              clear c5
              have H' := Aside0.mk H
              clear H
              have p101 : 0 ≤ (x7_1 : Int) := of_decide_eq_true (by first | (with_reducible assumption) | assumption)
              have q101 : x7_1 < (l0.length : Int) := of_decide_eq_true (by first | (with_reducible assumption) | assumption)
              obtain ⟨ad101, e101, hx101_0⟩ := Kd.at_string HR0.out x7_1 p101 q101
              cases e101
              replace p101 := eq_true p101
              replace q101 := eq_true q101
              go_wp2
              go_roundg k1
              case measure => have := HK1.out; omega
              case rel => exact ⟨(wrap64 (x7_1 + 1)), (by first | rfl | (simp; done) | (simp [*]; done) | (simp [bne_nil_]; done)), H', ⟨by have := HK1.out; omega⟩, by repeat (first | exact Drawn0.refl _ | apply Drawn0.step)⟩
          · rw [if_neg c4] at H
            exact absurd H (by simp)
        · rw [if_neg c3] at H
          exact absurd H (by simp)
      · rw [if_neg c2] at H
        have c2b0 : decide (x7_1 < (l0.length : Int)) = false := decide_eq_false c2
        clear c2
        obtain rfl := Option.some.inj H
        go_wp2
        go_ret
        exact ⟨by first | rfl | (simp; done) | (simp [*]; done) | (simp [bne_nil_]; done), by repeat (first | exact Drawn0.refl _ | apply Drawn0.step)⟩

-- LEFT OUT: function 120

-- LEFT OUT: function 99

-- LEFT OUT: function 131

-- LEFT OUT: function 119

-- LEFT OUT: function 98

-- LEFT OUT: function 75

-- LEFT OUT: function 116

-- LEFT OUT: function 96

-- LEFT OUT: function 73

-- NOT PRINTED: function 117 (unicode_is16)

-- NOT PRINTED: function 118 (unicode_is32)

-- NOT PRINTED: function 97 (unicode_isExcludingLatin)

-- NOT PRINTED: function 74 (unicode_IsSpace)

-- LEFT OUT: function 36

-- LEFT OUT: function 37

-- LEFT OUT: function 76

-- LEFT OUT: function 38

-- LEFT OUT: function 100

-- LEFT OUT: function 121

-- LEFT OUT: function 101

-- LEFT OUT: function 77

-- LEFT OUT: function 39

-- LEFT OUT: function 127

-- LEFT OUT: function 133

-- LEFT OUT: function 137

-- LEFT OUT: function 140

-- LEFT OUT: function 139

-- LEFT OUT: function 151

-- LEFT OUT: function 152

-- LEFT OUT: function 149

-- LEFT OUT: function 153

-- LEFT OUT: function 154

-- LEFT OUT: function 150

-- LEFT OUT: function 148

-- LEFT OUT: function 146

-- LEFT OUT: function 141

-- LEFT OUT: function 134

-- LEFT OUT: function 135

-- LEFT OUT: function 136

-- LEFT OUT: function 142

-- LEFT OUT: function 143

-- LEFT OUT: function 144

-- LEFT OUT: function 147

-- LEFT OUT: function 145

-- LEFT OUT: function 138

-- LEFT OUT: function 128

-- LEFT OUT: function 112

-- LEFT OUT: function 82

-- LEFT OUT: function 83

-- LEFT OUT: function 47

-- LEFT OUT: function 40

-- LEFT OUT: function 17

-- LEFT OUT: function 42

-- LEFT OUT: function 80

-- LEFT OUT: function 43

-- LEFT OUT: function 19

-- LEFT OUT: function 45

-- LEFT OUT: function 46

-- LEFT OUT: function 21

-- LEFT OUT: function 85

-- LEFT OUT: function 86

-- LEFT OUT: function 49

-- LEFT OUT: function 129

-- LEFT OUT: function 114

-- LEFT OUT: function 87

-- LEFT OUT: function 130

-- LEFT OUT: function 115

-- LEFT OUT: function 88

-- LEFT OUT: function 89

-- LEFT OUT: function 50

-- LEFT OUT: function 23

-- LEFT OUT: function 12

-- GIVEN: function 5 (impl_Mixed)

-- LEFT OUT: function 91

-- LEFT OUT: function 53

-- LEFT OUT: function 54

-- LEFT OUT: function 59

-- LEFT OUT: function 63

-- LEFT OUT: function 92

-- LEFT OUT: function 55

-- LEFT OUT: function 56

-- LEFT OUT: function 26

-- LEFT OUT: function 33

-- LEFT OUT: function 57

-- LEFT OUT: function 58

-- LEFT OUT: function 27

-- LEFT OUT: function 93

-- LEFT OUT: function 60

-- LEFT OUT: function 61

-- LEFT OUT: function 62

-- LEFT OUT: function 28

-- GIVEN: function 13 (spec_DebianCompare)

-- LEFT OUT: function 29

-- LEFT OUT: function 64

-- LEFT OUT: function 65

-- LEFT OUT: function 94

-- LEFT OUT: function 66

-- LEFT OUT: function 30

-- GIVEN: function 14 (spec_RedHatCompare)

-- LEFT OUT: function 67

-- LEFT OUT: function 68

-- LEFT OUT: function 31

-- LEFT OUT: function 32

-- GIVEN: function 15 (spec_CRANCompare)

-- LEFT OUT: function 34

-- LEFT OUT: function 95

-- LEFT OUT: function 69

-- LEFT OUT: function 70

-- LEFT OUT: function 71

-- LEFT OUT: function 72

-- LEFT OUT: function 35

-- GIVEN: function 16 (spec_RubyCompare)

/-! ### spec_Mixed: function 6 -/
def spec_Mixed.f (a0 : Int) (a1 : ByteArray) (a2 : Int) (a3 : ByteArray) : Option (Int × Bool) := if a0 = a2 then (if a0 = 0 then ((Giv.nol_DebianCompare.f a1 a3).bind fun bt105 => (some (bt105.1, bt105.2))) else (if a0 = 1 then ((Giv.nol_RedHatCompare.f a1 a3).bind fun bt107 => (some (bt107.1, bt107.2))) else (if a0 = 2 then ((Giv.nol_CRANCompare.f a1 a3).bind fun bt109 => (some (bt109.1, bt109.2))) else (if a0 = 3 then ((Giv.nol_RubyCompare.f a1 a3).bind fun bt111 => (some (bt111.1, bt111.2))) else (some (0, false)))))) else (some (0, false))
set_option maxHeartbeats 8000000 in
set_option maxRecDepth 100000 in
theorem spec_Mixed.calls (a0 : Int) (a1 : ByteArray) (a2 : Int) (a3 : ByteArray) (r1 : Int) (r2 : Bool) (w : World) (h : spec_Mixed.f a0 a1 a2 a3 = some (r1, r2)) :
    Calls Tryz.prog 6 #[.int .i64 a0, .string a1, .int .i64 a2, .string a3] w fun e w' => e = .returned (.tuple #[.int .i64 r1, .bool r2]) ∧ Below w.heap.size w w' := by
  have HB := Aside0.mk (Below.refl w.heap.size w)
  have H : (if a0 = a2 then (if a0 = 0 then ((Giv.nol_DebianCompare.f a1 a3).bind fun bt105 => (some (bt105.1, bt105.2))) else (if a0 = 1 then ((Giv.nol_RedHatCompare.f a1 a3).bind fun bt107 => (some (bt107.1, bt107.2))) else (if a0 = 2 then ((Giv.nol_CRANCompare.f a1 a3).bind fun bt109 => (some (bt109.1, bt109.2))) else (if a0 = 3 then ((Giv.nol_RubyCompare.f a1 a3).bind fun bt111 => (some (bt111.1, bt111.2))) else (some (0, false)))))) else (some (0, false))) = some (r1, r2) := h
  clear h
  by_cases c5 : a0 = a2
  · rw [if_pos c5] at H
    have c5b0 : (a0 == a2) = true := beq_iff_eq.mpr c5
    have c5b1 : (a0 != a2) = false := bne_eq_false_iff_eq.mpr c5
    clear c5
    by_cases c6 : a0 = 0
    · rw [if_pos c6] at H
      have c6b0 : (a0 == 0) = true := beq_iff_eq.mpr c6
      have c6b1 : (a0 != 0) = false := bne_eq_false_iff_eq.mpr c6
      clear c6
      replace H := Option.bind_eq_some_iff.mp H
      obtain ⟨⟨t105, t106⟩, A70, H⟩ := H
      replace H : (some (t105, t106)) = some (r1, r2) := H
      have A7 := Aside0.mk A70
      clear A70
      simp only [Option.some.injEq, Prod.mk.injEq] at H
      obtain ⟨rfl, rfl⟩ := H
      go_enter Tryz.func6, Tryz.ntmps6
      go_wp2_with (first | ((with_reducible refine gate_callee (f := 13) rfl ?_); refine goesL_ (some 18) rfl rfl Tryz.func13 (by kernel_rfl) rfl #[.string a1, .string a3] rfl (by (try simp only [List.map_toArray, List.map_cons, List.map_nil]); first | done | rfl | (simp only [List.length_drop, List.length_take]; rfl)) ?_; (with_reducible refine (Giv.nol_DebianCompare.calls a1 a3 t105 t106 _ A7.out).mono ?_); rintro e w8 ⟨rfl, hb⟩; refine ⟨_, rfl, ?_⟩; have n0_ := Aside0.mk (below_step (by repeat (first | (with_reducible first | exact HB.out | apply below_alloc | apply pw_below_drewN | apply below_drew1) | exact HB.out)) hb); clear HB; have HB := n0_; clear n0_; (try clear hb); (try clear hb2); (try clear hk); (try clear hi)))
      go_ret2
      exact ⟨by first | rfl | (simp [errW_none, errW_some] <;> rfl) | (simp [*, errW_none, errW_some] <;> rfl) | (simp [bne_nil_]; done), by repeat (first | (with_reducible first | exact HB.out | apply below_alloc | apply pw_below_drewN | apply below_drew1) | exact HB.out)⟩
    · rw [if_neg c6] at H
      have c6b0 : (a0 == 0) = false := beq_eq_false_iff_ne.mpr c6
      have c6b1 : (a0 != 0) = true := bne_iff_ne.mpr c6
      by_cases c9 : a0 = 1
      · rw [if_pos c9] at H
        have c9b0 : (a0 == 1) = true := beq_iff_eq.mpr c9
        have c9b1 : (a0 != 1) = false := bne_eq_false_iff_eq.mpr c9
        clear c9
        replace H := Option.bind_eq_some_iff.mp H
        obtain ⟨⟨t107, t108⟩, A100, H⟩ := H
        replace H : (some (t107, t108)) = some (r1, r2) := H
        have A10 := Aside0.mk A100
        clear A100
        simp only [Option.some.injEq, Prod.mk.injEq] at H
        obtain ⟨rfl, rfl⟩ := H
        go_enter Tryz.func6, Tryz.ntmps6
        go_wp2_with (first | ((with_reducible refine gate_callee (f := 14) rfl ?_); refine goesL_ (some 25) rfl rfl Tryz.func14 (by kernel_rfl) rfl #[.string a1, .string a3] rfl (by (try simp only [List.map_toArray, List.map_cons, List.map_nil]); first | done | rfl | (simp only [List.length_drop, List.length_take]; rfl)) ?_; (with_reducible refine (Giv.nol_RedHatCompare.calls a1 a3 t107 t108 _ A10.out).mono ?_); rintro e w11 ⟨rfl, hb⟩; refine ⟨_, rfl, ?_⟩; have n0_ := Aside0.mk (below_step (by repeat (first | (with_reducible first | exact HB.out | apply below_alloc | apply pw_below_drewN | apply below_drew1) | exact HB.out)) hb); clear HB; have HB := n0_; clear n0_; (try clear hb); (try clear hb2); (try clear hk); (try clear hi)))
        go_ret2
        exact ⟨by first | rfl | (simp [errW_none, errW_some] <;> rfl) | (simp [*, errW_none, errW_some] <;> rfl) | (simp [bne_nil_]; done), by repeat (first | (with_reducible first | exact HB.out | apply below_alloc | apply pw_below_drewN | apply below_drew1) | exact HB.out)⟩
      · rw [if_neg c9] at H
        have c9b0 : (a0 == 1) = false := beq_eq_false_iff_ne.mpr c9
        have c9b1 : (a0 != 1) = true := bne_iff_ne.mpr c9
        by_cases c12 : a0 = 2
        · rw [if_pos c12] at H
          have c12b0 : (a0 == 2) = true := beq_iff_eq.mpr c12
          have c12b1 : (a0 != 2) = false := bne_eq_false_iff_eq.mpr c12
          clear c12
          replace H := Option.bind_eq_some_iff.mp H
          obtain ⟨⟨t109, t110⟩, A130, H⟩ := H
          replace H : (some (t109, t110)) = some (r1, r2) := H
          have A13 := Aside0.mk A130
          clear A130
          simp only [Option.some.injEq, Prod.mk.injEq] at H
          obtain ⟨rfl, rfl⟩ := H
          go_enter Tryz.func6, Tryz.ntmps6
          go_wp2_with (first | ((with_reducible refine gate_callee (f := 15) rfl ?_); refine goesL_ (some 32) rfl rfl Tryz.func15 (by kernel_rfl) rfl #[.string a1, .string a3] rfl (by (try simp only [List.map_toArray, List.map_cons, List.map_nil]); first | done | rfl | (simp only [List.length_drop, List.length_take]; rfl)) ?_; (with_reducible refine (Giv.nol_CRANCompare.calls a1 a3 t109 t110 _ A13.out).mono ?_); rintro e w14 ⟨rfl, hb⟩; refine ⟨_, rfl, ?_⟩; have n0_ := Aside0.mk (below_step (by repeat (first | (with_reducible first | exact HB.out | apply below_alloc | apply pw_below_drewN | apply below_drew1) | exact HB.out)) hb); clear HB; have HB := n0_; clear n0_; (try clear hb); (try clear hb2); (try clear hk); (try clear hi)))
          go_ret2
          exact ⟨by first | rfl | (simp [errW_none, errW_some] <;> rfl) | (simp [*, errW_none, errW_some] <;> rfl) | (simp [bne_nil_]; done), by repeat (first | (with_reducible first | exact HB.out | apply below_alloc | apply pw_below_drewN | apply below_drew1) | exact HB.out)⟩
        · rw [if_neg c12] at H
          have c12b0 : (a0 == 2) = false := beq_eq_false_iff_ne.mpr c12
          have c12b1 : (a0 != 2) = true := bne_iff_ne.mpr c12
          by_cases c15 : a0 = 3
          · rw [if_pos c15] at H
            have c15b0 : (a0 == 3) = true := beq_iff_eq.mpr c15
            have c15b1 : (a0 != 3) = false := bne_eq_false_iff_eq.mpr c15
            clear c15
            replace H := Option.bind_eq_some_iff.mp H
            obtain ⟨⟨t111, t112⟩, A160, H⟩ := H
            replace H : (some (t111, t112)) = some (r1, r2) := H
            have A16 := Aside0.mk A160
            clear A160
            simp only [Option.some.injEq, Prod.mk.injEq] at H
            obtain ⟨rfl, rfl⟩ := H
            go_enter Tryz.func6, Tryz.ntmps6
            go_wp2_with (first | ((with_reducible refine gate_callee (f := 16) rfl ?_); refine goesL_ (some 39) rfl rfl Tryz.func16 (by kernel_rfl) rfl #[.string a1, .string a3] rfl (by (try simp only [List.map_toArray, List.map_cons, List.map_nil]); first | done | rfl | (simp only [List.length_drop, List.length_take]; rfl)) ?_; (with_reducible refine (Giv.nol_RubyCompare.calls a1 a3 t111 t112 _ A16.out).mono ?_); rintro e w17 ⟨rfl, hb⟩; refine ⟨_, rfl, ?_⟩; have n0_ := Aside0.mk (below_step (by repeat (first | (with_reducible first | exact HB.out | apply below_alloc | apply pw_below_drewN | apply below_drew1) | exact HB.out)) hb); clear HB; have HB := n0_; clear n0_; (try clear hb); (try clear hb2); (try clear hk); (try clear hi)))
            go_ret2
            exact ⟨by first | rfl | (simp [errW_none, errW_some] <;> rfl) | (simp [*, errW_none, errW_some] <;> rfl) | (simp [bne_nil_]; done), by repeat (first | (with_reducible first | exact HB.out | apply below_alloc | apply pw_below_drewN | apply below_drew1) | exact HB.out)⟩
          · rw [if_neg c15] at H
            have c15b0 : (a0 == 3) = false := beq_eq_false_iff_ne.mpr c15
            have c15b1 : (a0 != 3) = true := bne_iff_ne.mpr c15
            simp only [Option.some.injEq, Prod.mk.injEq] at H
            obtain ⟨rfl, rfl⟩ := H
            go_enter Tryz.func6, Tryz.ntmps6
            go_wp2
            go_ret2
            exact ⟨by first | rfl | (simp [errW_none, errW_some] <;> rfl) | (simp [*, errW_none, errW_some] <;> rfl) | (simp [bne_nil_]; done), by repeat (first | (with_reducible first | exact HB.out | apply below_alloc | apply pw_below_drewN | apply below_drew1) | exact HB.out)⟩
  · rw [if_neg c5] at H
    have c5b0 : (a0 == a2) = false := beq_eq_false_iff_ne.mpr c5
    have c5b1 : (a0 != a2) = true := bne_iff_ne.mpr c5
    simp only [Option.some.injEq, Prod.mk.injEq] at H
    obtain ⟨rfl, rfl⟩ := H
    go_enter Tryz.func6, Tryz.ntmps6
    go_wp2
    go_ret2
    exact ⟨by first | rfl | (simp [errW_none, errW_some] <;> rfl) | (simp [*, errW_none, errW_some] <;> rfl) | (simp [bne_nil_]; done), by repeat (first | (with_reducible first | exact HB.out | apply below_alloc | apply pw_below_drewN | apply below_drew1) | exact HB.out)⟩

-- LEFT OUT: function 102

-- LEFT OUT: function 78

-- LEFT OUT: function 122

-- LEFT OUT: function 103

-- LEFT OUT: function 104

-- LEFT OUT: function 105

-- LEFT OUT: function 123

-- LEFT OUT: function 106

-- LEFT OUT: function 79

-- LEFT OUT: function 41

-- LEFT OUT: function 18

-- GIVEN: function 7 (impl_DebianCompare)

-- LEFT OUT: function 108

-- LEFT OUT: function 107

-- LEFT OUT: function 109

-- LEFT OUT: function 125

-- LEFT OUT: function 110

-- LEFT OUT: function 132

-- LEFT OUT: function 126

-- LEFT OUT: function 111

-- LEFT OUT: function 81

-- LEFT OUT: function 44

-- LEFT OUT: function 20

-- GIVEN: function 8 (impl_RedHatCompare)

-- NOT PRINTED: function 113 (semantic_components_Fetch)

-- NOT PRINTED: function 84 (semantic_components_Cmp)

-- LEFT OUT: function 48

-- LEFT OUT: function 22

-- GIVEN: function 9 (impl_CRANCompare)

-- LEFT OUT: function 90

-- LEFT OUT: function 51

-- LEFT OUT: function 24

-- GIVEN: function 10 (impl_RubyCompare)

-- LEFT OUT: function 52

-- GIVEN: function 25 (impl_DebianParts)

/-! ### laws_debianAwake: function 11 -/
def laws_debianAwake.f  : Option (Bool) := (Giv.mx_DebianCompare.f (⟨#[49]⟩ : ByteArray) (⟨#[50]⟩ : ByteArray)).bind fun bt113 => ((Giv.mx_DebianParts.f (⟨#[49]⟩ : ByteArray) (⟨#[50]⟩ : ByteArray)).bind fun bt115 => (if bt113.2 = true then (if bt115.2 = true then (if bt113.1 = (-1) then (some (bt115.1 == (-1))) else (some false)) else (some false)) else (some false)))
set_option maxHeartbeats 8000000 in
set_option maxRecDepth 100000 in
theorem laws_debianAwake.calls  (r : Bool) (w : World) (h : laws_debianAwake.f  = some r) (hL : Giv.LaidM w) :
    Calls Tryz.prog 11 #[] w fun e w' => e = .returned (.bool r) ∧ Below w.heap.size w w' := by
  have HLd := Aside0.mk hL
  clear hL
  have HB := Aside0.mk (Below.refl w.heap.size w)
  have H : ((Giv.mx_DebianCompare.f (⟨#[49]⟩ : ByteArray) (⟨#[50]⟩ : ByteArray)).bind fun bt113 => ((Giv.mx_DebianParts.f (⟨#[49]⟩ : ByteArray) (⟨#[50]⟩ : ByteArray)).bind fun bt115 => (if bt113.2 = true then (if bt115.2 = true then (if bt113.1 = (-1) then (some (bt115.1 == (-1))) else (some false)) else (some false)) else (some false)))) = some r := h
  clear h
  replace H := Option.bind_eq_some_iff.mp H
  obtain ⟨⟨t113, t114⟩, A10, H⟩ := H
  replace H : ((Giv.mx_DebianParts.f (⟨#[49]⟩ : ByteArray) (⟨#[50]⟩ : ByteArray)).bind fun bt115 => (if t114 = true then (if bt115.2 = true then (if t113 = (-1) then (some (bt115.1 == (-1))) else (some false)) else (some false)) else (some false))) = some r := H
  have A1 := Aside0.mk A10
  clear A10
  replace H := Option.bind_eq_some_iff.mp H
  obtain ⟨⟨t115, t116⟩, A20, H⟩ := H
  replace H : (if t114 = true then (if t116 = true then (if t113 = (-1) then (some (t115 == (-1))) else (some false)) else (some false)) else (some false)) = some r := H
  have A2 := Aside0.mk A20
  clear A20
  by_cases c3 : t114 = true
  · subst c3
    have H1 : (if t116 = true then (if t113 = (-1) then (some (t115 == (-1))) else (some false)) else (some false)) = some r := by rw [if_pos rfl] at H; exact H
    clear H
    have H := H1
    clear H1
    by_cases c4 : t116 = true
    · subst c4
      have H1 : (if t113 = (-1) then (some (t115 == (-1))) else (some false)) = some r := by rw [if_pos rfl] at H; exact H
      clear H
      have H := H1
      clear H1
      by_cases c5 : t113 = (-1)
      · rw [if_pos c5] at H
        have c5b0 : (t113 == (-1)) = true := beq_iff_eq.mpr c5
        have c5b1 : (t113 != (-1)) = false := bne_eq_false_iff_eq.mpr c5
        clear c5
        obtain rfl := Option.some.inj H
        go_enter Tryz.func11, Tryz.ntmps11
        go_wp2_with (first | ((with_reducible refine gate_callee (f := 7) rfl ?_); refine goesL_ (some 6) rfl rfl Tryz.func7 (by kernel_rfl) rfl #[.string (⟨#[49]⟩ : ByteArray), .string (⟨#[50]⟩ : ByteArray)] rfl (by (try simp only [List.map_toArray, List.map_cons, List.map_nil]); first | done | rfl | (simp only [List.length_drop, List.length_take]; rfl)) ?_; (with_reducible refine (Giv.mx_DebianCompare.calls (⟨#[49]⟩ : ByteArray) (⟨#[50]⟩ : ByteArray) t113 true _ A1.out (HLd.out.below (by repeat (first | (with_reducible first | exact HB.out | apply below_alloc | apply pw_below_drewN | apply below_drew1) | exact HB.out)))).mono ?_); rintro e w6 ⟨rfl, hb⟩; refine ⟨_, rfl, ?_⟩; have n0_ := Aside0.mk (below_step (by repeat (first | (with_reducible first | exact HB.out | apply below_alloc | apply pw_below_drewN | apply below_drew1) | exact HB.out)) hb); clear HB; have HB := n0_; clear n0_; (try clear hb); (try clear hb2); (try clear hk); (try clear hi)) | ((with_reducible refine gate_callee (f := 25) rfl ?_); refine goesL_ (some 10) rfl rfl Tryz.func25 (by kernel_rfl) rfl #[.string (⟨#[49]⟩ : ByteArray), .string (⟨#[50]⟩ : ByteArray)] rfl (by (try simp only [List.map_toArray, List.map_cons, List.map_nil]); first | done | rfl | (simp only [List.length_drop, List.length_take]; rfl)) ?_; (with_reducible refine (Giv.mx_DebianParts.calls (⟨#[49]⟩ : ByteArray) (⟨#[50]⟩ : ByteArray) t115 true _ A2.out (HLd.out.below (by repeat (first | (with_reducible first | exact HB.out | apply below_alloc | apply pw_below_drewN | apply below_drew1) | exact HB.out)))).mono ?_); rintro e w7 ⟨rfl, hb⟩; refine ⟨_, rfl, ?_⟩; have n0_ := Aside0.mk (below_step (by repeat (first | (with_reducible first | exact HB.out | apply below_alloc | apply pw_below_drewN | apply below_drew1) | exact HB.out)) hb); clear HB; have HB := n0_; clear n0_; (try clear hb); (try clear hb2); (try clear hk); (try clear hi)))
        go_ret
        exact ⟨by first | rfl | (simp [errW_none, errW_some] <;> rfl) | (simp [*, errW_none, errW_some] <;> rfl) | (simp [bne_nil_]; done), by repeat (first | (with_reducible first | exact HB.out | apply below_alloc | apply pw_below_drewN | apply below_drew1) | exact HB.out)⟩
      · rw [if_neg c5] at H
        have c5b0 : (t113 == (-1)) = false := beq_eq_false_iff_ne.mpr c5
        have c5b1 : (t113 != (-1)) = true := bne_iff_ne.mpr c5
        obtain rfl := Option.some.inj H
        go_enter Tryz.func11, Tryz.ntmps11
        go_wp2_with (first | ((with_reducible refine gate_callee (f := 7) rfl ?_); refine goesL_ (some 6) rfl rfl Tryz.func7 (by kernel_rfl) rfl #[.string (⟨#[49]⟩ : ByteArray), .string (⟨#[50]⟩ : ByteArray)] rfl (by (try simp only [List.map_toArray, List.map_cons, List.map_nil]); first | done | rfl | (simp only [List.length_drop, List.length_take]; rfl)) ?_; (with_reducible refine (Giv.mx_DebianCompare.calls (⟨#[49]⟩ : ByteArray) (⟨#[50]⟩ : ByteArray) t113 true _ A1.out (HLd.out.below (by repeat (first | (with_reducible first | exact HB.out | apply below_alloc | apply pw_below_drewN | apply below_drew1) | exact HB.out)))).mono ?_); rintro e w8 ⟨rfl, hb⟩; refine ⟨_, rfl, ?_⟩; have n0_ := Aside0.mk (below_step (by repeat (first | (with_reducible first | exact HB.out | apply below_alloc | apply pw_below_drewN | apply below_drew1) | exact HB.out)) hb); clear HB; have HB := n0_; clear n0_; (try clear hb); (try clear hb2); (try clear hk); (try clear hi)) | ((with_reducible refine gate_callee (f := 25) rfl ?_); refine goesL_ (some 10) rfl rfl Tryz.func25 (by kernel_rfl) rfl #[.string (⟨#[49]⟩ : ByteArray), .string (⟨#[50]⟩ : ByteArray)] rfl (by (try simp only [List.map_toArray, List.map_cons, List.map_nil]); first | done | rfl | (simp only [List.length_drop, List.length_take]; rfl)) ?_; (with_reducible refine (Giv.mx_DebianParts.calls (⟨#[49]⟩ : ByteArray) (⟨#[50]⟩ : ByteArray) t115 true _ A2.out (HLd.out.below (by repeat (first | (with_reducible first | exact HB.out | apply below_alloc | apply pw_below_drewN | apply below_drew1) | exact HB.out)))).mono ?_); rintro e w9 ⟨rfl, hb⟩; refine ⟨_, rfl, ?_⟩; have n0_ := Aside0.mk (below_step (by repeat (first | (with_reducible first | exact HB.out | apply below_alloc | apply pw_below_drewN | apply below_drew1) | exact HB.out)) hb); clear HB; have HB := n0_; clear n0_; (try clear hb); (try clear hb2); (try clear hk); (try clear hi)))
        go_ret
        exact ⟨by first | rfl | (simp [errW_none, errW_some] <;> rfl) | (simp [*, errW_none, errW_some] <;> rfl) | (simp [bne_nil_]; done), by repeat (first | (with_reducible first | exact HB.out | apply below_alloc | apply pw_below_drewN | apply below_drew1) | exact HB.out)⟩
    · replace c4 := Bool.eq_false_iff.mpr c4
      subst c4
      have H1 : (some false) = some r := by rw [if_neg (show ¬ (false = true) by decide)] at H; exact H
      clear H
      have H := H1
      clear H1
      obtain rfl := Option.some.inj H
      go_enter Tryz.func11, Tryz.ntmps11
      go_wp2_with (first | ((with_reducible refine gate_callee (f := 7) rfl ?_); refine goesL_ (some 6) rfl rfl Tryz.func7 (by kernel_rfl) rfl #[.string (⟨#[49]⟩ : ByteArray), .string (⟨#[50]⟩ : ByteArray)] rfl (by (try simp only [List.map_toArray, List.map_cons, List.map_nil]); first | done | rfl | (simp only [List.length_drop, List.length_take]; rfl)) ?_; (with_reducible refine (Giv.mx_DebianCompare.calls (⟨#[49]⟩ : ByteArray) (⟨#[50]⟩ : ByteArray) t113 true _ A1.out (HLd.out.below (by repeat (first | (with_reducible first | exact HB.out | apply below_alloc | apply pw_below_drewN | apply below_drew1) | exact HB.out)))).mono ?_); rintro e w10 ⟨rfl, hb⟩; refine ⟨_, rfl, ?_⟩; have n0_ := Aside0.mk (below_step (by repeat (first | (with_reducible first | exact HB.out | apply below_alloc | apply pw_below_drewN | apply below_drew1) | exact HB.out)) hb); clear HB; have HB := n0_; clear n0_; (try clear hb); (try clear hb2); (try clear hk); (try clear hi)) | ((with_reducible refine gate_callee (f := 25) rfl ?_); refine goesL_ (some 10) rfl rfl Tryz.func25 (by kernel_rfl) rfl #[.string (⟨#[49]⟩ : ByteArray), .string (⟨#[50]⟩ : ByteArray)] rfl (by (try simp only [List.map_toArray, List.map_cons, List.map_nil]); first | done | rfl | (simp only [List.length_drop, List.length_take]; rfl)) ?_; (with_reducible refine (Giv.mx_DebianParts.calls (⟨#[49]⟩ : ByteArray) (⟨#[50]⟩ : ByteArray) t115 false _ A2.out (HLd.out.below (by repeat (first | (with_reducible first | exact HB.out | apply below_alloc | apply pw_below_drewN | apply below_drew1) | exact HB.out)))).mono ?_); rintro e w11 ⟨rfl, hb⟩; refine ⟨_, rfl, ?_⟩; have n0_ := Aside0.mk (below_step (by repeat (first | (with_reducible first | exact HB.out | apply below_alloc | apply pw_below_drewN | apply below_drew1) | exact HB.out)) hb); clear HB; have HB := n0_; clear n0_; (try clear hb); (try clear hb2); (try clear hk); (try clear hi)))
      go_ret
      exact ⟨by first | rfl | (simp [errW_none, errW_some] <;> rfl) | (simp [*, errW_none, errW_some] <;> rfl) | (simp [bne_nil_]; done), by repeat (first | (with_reducible first | exact HB.out | apply below_alloc | apply pw_below_drewN | apply below_drew1) | exact HB.out)⟩
  · replace c3 := Bool.eq_false_iff.mpr c3
    subst c3
    have H1 : (some false) = some r := by rw [if_neg (show ¬ (false = true) by decide)] at H; exact H
    clear H
    have H := H1
    clear H1
    obtain rfl := Option.some.inj H
    go_enter Tryz.func11, Tryz.ntmps11
    go_wp2_with (first | ((with_reducible refine gate_callee (f := 7) rfl ?_); refine goesL_ (some 6) rfl rfl Tryz.func7 (by kernel_rfl) rfl #[.string (⟨#[49]⟩ : ByteArray), .string (⟨#[50]⟩ : ByteArray)] rfl (by (try simp only [List.map_toArray, List.map_cons, List.map_nil]); first | done | rfl | (simp only [List.length_drop, List.length_take]; rfl)) ?_; (with_reducible refine (Giv.mx_DebianCompare.calls (⟨#[49]⟩ : ByteArray) (⟨#[50]⟩ : ByteArray) t113 false _ A1.out (HLd.out.below (by repeat (first | (with_reducible first | exact HB.out | apply below_alloc | apply pw_below_drewN | apply below_drew1) | exact HB.out)))).mono ?_); rintro e w12 ⟨rfl, hb⟩; refine ⟨_, rfl, ?_⟩; have n0_ := Aside0.mk (below_step (by repeat (first | (with_reducible first | exact HB.out | apply below_alloc | apply pw_below_drewN | apply below_drew1) | exact HB.out)) hb); clear HB; have HB := n0_; clear n0_; (try clear hb); (try clear hb2); (try clear hk); (try clear hi)) | ((with_reducible refine gate_callee (f := 25) rfl ?_); refine goesL_ (some 10) rfl rfl Tryz.func25 (by kernel_rfl) rfl #[.string (⟨#[49]⟩ : ByteArray), .string (⟨#[50]⟩ : ByteArray)] rfl (by (try simp only [List.map_toArray, List.map_cons, List.map_nil]); first | done | rfl | (simp only [List.length_drop, List.length_take]; rfl)) ?_; (with_reducible refine (Giv.mx_DebianParts.calls (⟨#[49]⟩ : ByteArray) (⟨#[50]⟩ : ByteArray) t115 t116 _ A2.out (HLd.out.below (by repeat (first | (with_reducible first | exact HB.out | apply below_alloc | apply pw_below_drewN | apply below_drew1) | exact HB.out)))).mono ?_); rintro e w13 ⟨rfl, hb⟩; refine ⟨_, rfl, ?_⟩; have n0_ := Aside0.mk (below_step (by repeat (first | (with_reducible first | exact HB.out | apply below_alloc | apply pw_below_drewN | apply below_drew1) | exact HB.out)) hb); clear HB; have HB := n0_; clear n0_; (try clear hb); (try clear hb2); (try clear hk); (try clear hi)))
    go_ret
    exact ⟨by first | rfl | (simp [errW_none, errW_some] <;> rfl) | (simp [*, errW_none, errW_some] <;> rfl) | (simp [bne_nil_]; done), by repeat (first | (with_reducible first | exact HB.out | apply below_alloc | apply pw_below_drewN | apply below_drew1) | exact HB.out)⟩

/-! ### laws_FnMixed: function 3 -/
mutual
def laws_FnMixed.j0 : Nat → Int → ByteArray → Int → ByteArray → Bool → Option (Bool)
  | 0, _, _, _, _, _ => none
  | k + 1, x0, x1, x2, x3, x24 => if x24 = true then (some true) else ((laws_short.f k (([x1, x3] : List ByteArray))).bind fun t120 => (if t120 = true then ((Giv.impl_Mixed.f x0 x1 x2 x3).bind fun bt121 => (if x0 = x2 then (if x0 < 0 then (laws_FnMixed.j1 k x0 x1 x2 x3 bt121.1 bt121.2 true) else (laws_FnMixed.j1 k x0 x1 x2 x3 bt121.1 bt121.2 (decide (x0 > 3)))) else (laws_FnMixed.j1 k x0 x1 x2 x3 bt121.1 bt121.2 true))) else (some true)))
def laws_FnMixed.j1 : Nat → Int → ByteArray → Int → ByteArray → Int → Bool → Bool → Option (Bool)
  | 0, _, _, _, _, _, _, _ => none
  | k + 1, x0, x1, x2, x3, x9, x10, x48 => if x48 = true then ((Giv.impl_Mixed.f 0 (⟨#[49]⟩ : ByteArray) 0 (⟨#[50]⟩ : ByteArray)).bind fun bt123 => ((spec_Mixed.f x0 x1 x2 x3).bind fun bt125 => (if x9 = bt125.1 then (if (x10 == bt125.2) = true then (if bt125.1 = 0 then (if bt123.1 = (-1) then (some bt123.2) else (some false)) else (some false)) else (some false)) else (some false)))) else (if x0 = 0 then ((Giv.mx_DebianCompare.f x1 x3).bind fun bt127 => (if x9 = bt127.1 then (if (x10 == bt127.2) = true then ((laws_debianAwake.f).bind fun t129 => (some t129)) else (some false)) else (some false))) else (if x0 = 1 then ((Giv.mx_RedHatCompare.f x1 x3).bind fun bt130 => (if x9 = bt130.1 then (if (x10 == bt130.2) = true then ((laws_debianAwake.f).bind fun t132 => (some t132)) else (some false)) else (some false))) else (if x0 = 2 then ((Giv.mx_CRANCompare.f x1 x3).bind fun bt133 => (if x9 = bt133.1 then (if (x10 == bt133.2) = true then ((laws_debianAwake.f).bind fun t135 => (some t135)) else (some false)) else (some false))) else ((Giv.mx_RubyCompare.f x1 x3).bind fun bt136 => (if x9 = bt136.1 then (if (x10 == bt136.2) = true then ((laws_debianAwake.f).bind fun t138 => (some t138)) else (some false)) else (some false))))))
end
def laws_FnMixed.f (k : Nat) (a0 : Int) (a1 : ByteArray) (a2 : Int) (a3 : ByteArray) : Option (Bool) := if (a1.size : Int) > 2147483647 then (laws_FnMixed.j0 k a0 a1 a2 a3 true) else (laws_FnMixed.j0 k a0 a1 a2 a3 (decide ((a3.size : Int) > 2147483647)))
theorem laws_FnMixed.mono_l : ∀ k, (∀ y0 y1 y2 y3 y4, LeO (laws_FnMixed.j0 k y0 y1 y2 y3 y4) (laws_FnMixed.j0 (k + 1) y0 y1 y2 y3 y4)) ∧ (∀ y0 y1 y2 y3 y4 y5 y6, LeO (laws_FnMixed.j1 k y0 y1 y2 y3 y4 y5 y6) (laws_FnMixed.j1 (k + 1) y0 y1 y2 y3 y4 y5 y6))
  | 0 => ⟨fun _ _ _ _ _ r h => by simp [laws_FnMixed.j0] at h, fun _ _ _ _ _ _ _ r h => by simp [laws_FnMixed.j1] at h⟩
  | k + 1 => by
    obtain ⟨ih0, ih1⟩ := laws_FnMixed.mono_l k
    refine ⟨?_, ?_⟩
    · intro y0 y1 y2 y3 y4
      unfold laws_FnMixed.j0
      repeat' first
      | (with_reducible exact ih0 _ _ _ _ _)
      | (with_reducible exact ih1 _ _ _ _ _ _ _)
      | (with_reducible exact laws_short.mono _ _)
      | (with_reducible exact LeO.refl _)
      | (with_reducible exact LeO.none _)
      | (with_reducible refine LeO.ite ?_ ?_)
      | (with_reducible refine LeO.bind ?_ (fun _ => ?_))
      | exact ih0 _ _ _ _ _
      | exact ih1 _ _ _ _ _ _ _
      | exact laws_short.mono _ _
      | exact LeO.none _
      | refine LeO.ite ?_ ?_
      | refine LeO.bind ?_ (fun _ => ?_)
    · intro y0 y1 y2 y3 y4 y5 y6
      unfold laws_FnMixed.j1
      repeat' first
      | (with_reducible exact ih0 _ _ _ _ _)
      | (with_reducible exact ih1 _ _ _ _ _ _ _)
      | (with_reducible exact laws_short.mono _ _)
      | (with_reducible exact LeO.refl _)
      | (with_reducible exact LeO.none _)
      | (with_reducible refine LeO.ite ?_ ?_)
      | (with_reducible refine LeO.bind ?_ (fun _ => ?_))
      | exact ih0 _ _ _ _ _
      | exact ih1 _ _ _ _ _ _ _
      | exact laws_short.mono _ _
      | exact LeO.none _
      | refine LeO.ite ?_ ?_
      | refine LeO.bind ?_ (fun _ => ?_)
theorem laws_FnMixed.mono : ∀ a0 a1 a2 a3 k, LeO (laws_FnMixed.f k a0 a1 a2 a3) (laws_FnMixed.f (k + 1) a0 a1 a2 a3) := by
  intro a0 a1 a2 a3 k
  obtain ⟨ih0, ih1⟩ := laws_FnMixed.mono_l k
  unfold laws_FnMixed.f
  repeat' first
      | (with_reducible exact ih0 _ _ _ _ _)
      | (with_reducible exact ih1 _ _ _ _ _ _ _)
      | (with_reducible exact laws_short.mono _ _)
      | (with_reducible exact LeO.refl _)
      | (with_reducible exact LeO.none _)
      | (with_reducible refine LeO.ite ?_ ?_)
      | (with_reducible refine LeO.bind ?_ (fun _ => ?_))
      | exact ih0 _ _ _ _ _
      | exact ih1 _ _ _ _ _ _ _
      | exact laws_short.mono _ _
      | exact LeO.none _
      | refine LeO.ite ?_ ?_
      | refine LeO.bind ?_ (fun _ => ?_)
set_option maxHeartbeats 8000000 in
set_option maxRecDepth 100000 in
theorem laws_FnMixed.calls (k : Nat) (a0 : Int) (a1 : ByteArray) (a2 : Int) (a3 : ByteArray) (r : Bool) (w : World) (h : laws_FnMixed.f k a0 a1 a2 a3 = some r) (hL : Giv.LaidM w) :
    Calls Tryz.prog 3 #[.int .i64 a0, .string a1, .int .i64 a2, .string a3] w fun e w' => e = .returned (.bool r) ∧ Below w.heap.size w w' := by
  have HLd := Aside0.mk hL
  clear hL
  have HB := Aside0.mk (Below.refl w.heap.size w)
  have H : (if (a1.size : Int) > 2147483647 then (laws_FnMixed.j0 k a0 a1 a2 a3 true) else (laws_FnMixed.j0 k a0 a1 a2 a3 (decide ((a3.size : Int) > 2147483647)))) = some r := h
  clear h
  have HC5 := Aside0.mk H
  clear H
  go_enter Tryz.func3, Tryz.ntmps3
  go_upto_region 1 with (fail)
  go_cut [24] (fun v24 wc => ∃ (kq : Nat) (x24_4 : Bool), v24 = .bool x24_4 ∧ Aside0 (laws_FnMixed.j0 kq a0 a1 a2 a3 x24_4 = some r) ∧ Aside0 (kq ≤ k) ∧ Aside0 (Below w.heap.size w wc))
  case first =>
    have H := HC5.out
    clear HC5
    by_cases c6 : (a1.size : Int) > 2147483647
    · rw [if_pos c6] at H
      have c6b0 : decide (2147483647 < (a1.size : Int)) = true := decide_eq_true c6
      have c6b1 : decide (2147483647 < a1.size) = true := decide_eq_true (by omega)
      clear c6
      (first | rw [c6b0] | (simp only [i64_w, i32_w]; rw [c6b0]) | skip)
      have H' := Aside0.mk H
      clear H
      go_wp2
      go_meet
      case rel => exact ⟨_, (true), (by first | rfl | (simp; done) | (simp [*]; done) | (simp [bne_nil_]; done)), H', ⟨by first | omega | exact Nat.le_refl _⟩, ⟨by repeat (first | (with_reducible first | exact HB.out | apply below_alloc | apply pw_below_drewN | apply below_drew1) | exact HB.out)⟩⟩
    · rw [if_neg c6] at H
      have c6b0 : decide (2147483647 < (a1.size : Int)) = false := decide_eq_false c6
      have c6b1 : decide (2147483647 < a1.size) = false := decide_eq_false (by omega)
      clear c6
      (first | rw [c6b0] | (simp only [i64_w, i32_w]; rw [c6b0]) | skip)
      have H' := Aside0.mk H
      clear H
      go_wp2
      go_meet
      case rel => exact ⟨_, (decide ((a3.size : Int) > 2147483647)), (by first | rfl | (simp; done) | (simp [*]; done) | (simp [bne_nil_]; done)), H', ⟨by first | omega | exact Nat.le_refl _⟩, ⟨by repeat (first | (with_reducible first | exact HB.out | apply below_alloc | apply pw_below_drewN | apply below_drew1) | exact HB.out)⟩⟩
  case rest =>
    clear HC5
    try clear p2
    try clear c3
    try clear c6
    try clear c6b0
    try clear c6b1
    obtain ⟨kq, x24_4, rfl, HA, HJ4, HB⟩ := hcut
    cases kq with
    | zero => exact absurd HA.out (by simp [laws_FnMixed.j0])
    | succ kj4 =>
      have H := HA.out
      clear HA
      simp only [laws_FnMixed.j0] at H
      by_cases c7 : x24_4 = true
      · subst c7
        have H1 : (some true) = some r := by rw [if_pos rfl] at H; exact H
        clear H
        have H := H1
        clear H1
        obtain rfl := Option.some.inj H
        go_wp2
        go_ret
        exact ⟨by first | rfl | (simp [errW_none, errW_some] <;> rfl) | (simp [*, errW_none, errW_some] <;> rfl) | (simp [bne_nil_]; done), by repeat (first | (with_reducible first | exact HB.out | apply below_alloc | apply pw_below_drewN | apply below_drew1) | exact HB.out)⟩
      · replace c7 := Bool.eq_false_iff.mpr c7
        subst c7
        have H1 : ((laws_short.f kj4 (([a1, a3] : List ByteArray))).bind fun t120 => (if t120 = true then ((Giv.impl_Mixed.f a0 a1 a2 a3).bind fun bt121 => (if a0 = a2 then (if a0 < 0 then (laws_FnMixed.j1 kj4 a0 a1 a2 a3 bt121.1 bt121.2 true) else (laws_FnMixed.j1 kj4 a0 a1 a2 a3 bt121.1 bt121.2 (decide (a0 > 3)))) else (laws_FnMixed.j1 kj4 a0 a1 a2 a3 bt121.1 bt121.2 true))) else (some true))) = some r := by rw [if_neg (show ¬ (false = true) by decide)] at H; exact H
        clear H
        have H := H1
        clear H1
        obtain ⟨y117, hy117⟩ : ∃ y_ : List ByteArray, y_ = (([a1, a3] : List ByteArray)) := ⟨_, rfl⟩
        replace H : ((laws_short.f kj4 y117).bind fun t120 => (if t120 = true then ((Giv.impl_Mixed.f a0 a1 a2 a3).bind fun bt121 => (if a0 = a2 then (if a0 < 0 then (laws_FnMixed.j1 kj4 a0 a1 a2 a3 bt121.1 bt121.2 true) else (laws_FnMixed.j1 kj4 a0 a1 a2 a3 bt121.1 bt121.2 (decide (a0 > 3)))) else (laws_FnMixed.j1 kj4 a0 a1 a2 a3 bt121.1 bt121.2 true))) else (some true))) = some r := by first | (rw [hy117]; with_reducible exact H) | (have H2_ := (Option.bind_some _ _).symm.trans H; rw [hy117]; with_reducible exact H2_) | (have H2_ := (Option.bind_some _ _).symm.trans H; with_reducible exact H2_) | with_reducible exact H | (rw [hy117]; exact H) | exact H
        have Ny117 := Aside0.mk hy117
        clear hy117
        replace H := Option.bind_eq_some_iff.mp H
        obtain ⟨t120, A80, H⟩ := H
        replace H : (if t120 = true then ((Giv.impl_Mixed.f a0 a1 a2 a3).bind fun bt121 => (if a0 = a2 then (if a0 < 0 then (laws_FnMixed.j1 kj4 a0 a1 a2 a3 bt121.1 bt121.2 true) else (laws_FnMixed.j1 kj4 a0 a1 a2 a3 bt121.1 bt121.2 (decide (a0 > 3)))) else (laws_FnMixed.j1 kj4 a0 a1 a2 a3 bt121.1 bt121.2 true))) else (some true)) = some r := H
        have A8 := Aside0.mk A80
        clear A80
        by_cases c9 : t120 = true
        · subst c9
          have H1 : ((Giv.impl_Mixed.f a0 a1 a2 a3).bind fun bt121 => (if a0 = a2 then (if a0 < 0 then (laws_FnMixed.j1 kj4 a0 a1 a2 a3 bt121.1 bt121.2 true) else (laws_FnMixed.j1 kj4 a0 a1 a2 a3 bt121.1 bt121.2 (decide (a0 > 3)))) else (laws_FnMixed.j1 kj4 a0 a1 a2 a3 bt121.1 bt121.2 true))) = some r := by rw [if_pos rfl] at H; exact H
          clear H
          have H := H1
          clear H1
          replace H := Option.bind_eq_some_iff.mp H
          obtain ⟨⟨t121, t122⟩, A100, H⟩ := H
          replace H : (if a0 = a2 then (if a0 < 0 then (laws_FnMixed.j1 kj4 a0 a1 a2 a3 t121 t122 true) else (laws_FnMixed.j1 kj4 a0 a1 a2 a3 t121 t122 (decide (a0 > 3)))) else (laws_FnMixed.j1 kj4 a0 a1 a2 a3 t121 t122 true)) = some r := H
          have A10 := Aside0.mk A100
          clear A100
          have HC11 := Aside0.mk H
          clear H
          go_upto_region 6 with (first | ((with_reducible refine gate_dst (N := 27) rfl ?_); (try (refine gate_guard (by rfl) ?_; dsimp only)); refine Kd.R_lit Kd.string _ 9 ?hg (N := 27) ?hd (xs := ([a1, a3] : List ByteArray)) (inner := [.string a1, .string a3]) (ok := fun _ => True) (okp := fun _ => True) ?hr ?hp (fun _ hk => hk) trivial (Below.refl _ _) (Nat.le_refl _) (by simp) ?_; (case hd => rfl); (case hg => rfl); (case hr => first | (go_simp; done) | (go_simp; rfl)); (case hp => exact (Reps.one (show Kd.M Kd.string _ _ _ a1 [.string a1] from rfl) (Reps.one (show Kd.M Kd.string _ _ _ a3 [.string a3] from rfl) (Reps.none _ _)))); intro v118 w12 ho13 hb hg_ hnew_; clear hg_ hnew_; (first | rw [← Ny117.out] at ho13 | (simp only [Int.reduceToNat] at ho13; rw [← Ny117.out] at ho13)); have n0_ := Aside0.mk (Kd.R_lower ho13 (below_size (by repeat (first | (with_reducible first | exact HB.out | apply below_alloc | apply pw_below_drewN | apply below_drew1) | exact HB.out)))); have n1_ := Aside0.mk (below_step (by repeat (first | (with_reducible first | exact HB.out | apply below_alloc | apply pw_below_drewN | apply below_drew1) | exact HB.out)) hb); clear HB; have HO119 := n0_; have HB := n1_; clear n0_ n1_; clear hb ho13; obtain ⟨Ao14, co14, eo14⟩ := Kd.R_slice HO119.out; subst eo14) | ((with_reducible refine gate_callee (f := 4) rfl ?_); refine goesL_ (some 28) rfl rfl Tryz.func4 (by kernel_rfl) rfl #[.slice Ao14 y117.length co14] rfl (by (try simp only [List.map_toArray, List.map_cons, List.map_nil]); first | done | rfl | (simp only [List.length_drop, List.length_take]; rfl)) ?_; (with_reducible refine (laws_short.calls kj4 _ _ y117 true _ ?side1 ?side2 A8.out).mono ?_); (case side1 => repeat (first | exact (Kd.R_reads' HO119.out).2.2 | (with_reducible refine Kd.C_alloc ?_ _) | (with_reducible refine Kd.C_drewN ?_ _) | (with_reducible refine Kd.C_drew ?_))); (case side2 => exact (Kd.R_reads' HO119.out).2.1); rintro e w' ⟨rfl, ⟨nd, rfl⟩⟩; refine ⟨_, rfl, ?_⟩) | ((with_reducible refine gate_callee (f := 5) rfl ?_); refine goesL_ (some 35) rfl rfl Tryz.func5 (by kernel_rfl) rfl #[.int .i64 a0, .string a1, .int .i64 a2, .string a3] rfl (by (try simp only [List.map_toArray, List.map_cons, List.map_nil]); first | done | rfl | (simp only [List.length_drop, List.length_take]; rfl)) ?_; (with_reducible refine (Giv.impl_Mixed.calls a0 a1 a2 a3 t121 t122 _ A10.out (HLd.out.below (by repeat (first | (with_reducible first | exact HB.out | apply below_alloc | apply pw_below_drewN | apply below_drew1) | exact HB.out)))).mono ?_); rintro e w15 ⟨rfl, hb⟩; refine ⟨_, rfl, ?_⟩; have n0_ := Aside0.mk (Kd.R_below (by (with_reducible repeat (first | apply Kd.R_alloc | apply Kd.R_drewN | apply Kd.R_drew)); exact HO119.out) hb); have n1_ := Aside0.mk (below_step (by repeat (first | (with_reducible first | exact HB.out | apply below_alloc | apply pw_below_drewN | apply below_drew1) | exact HB.out)) hb); clear HO119; clear HB; have HO119 := n0_; have HB := n1_; clear n0_ n1_; (try clear hb); (try clear hb2); (try clear hk); (try clear hi)))
          (try simp only [Act.put, List.setIfInBounds_toArray, List.set_cons_zero, List.set_cons_succ])
          go_cut [48] (fun v48 wc => ∃ (kq : Nat) (x48_10 : Bool), v48 = .bool x48_10 ∧ Aside0 (laws_FnMixed.j1 kq a0 a1 a2 a3 t121 t122 x48_10 = some r) ∧ Aside0 (kq ≤ kj4) ∧ Aside0 (Below w.heap.size w wc))
          case first =>
            have H := HC11.out
            clear HC11
            by_cases c16 : a0 = a2
            · rw [if_pos c16] at H
              have c16b0 : (a0 == a2) = true := beq_iff_eq.mpr c16
              have c16b1 : (a0 != a2) = false := bne_eq_false_iff_eq.mpr c16
              clear c16
              (first | rw [c16b0] | (simp only [i64_w, i32_w]; rw [c16b0]) | skip)
              by_cases c17 : a0 < 0
              · rw [if_pos c17] at H
                have c17b0 : decide (a0 < 0) = true := decide_eq_true c17
                clear c17
                have H' := Aside0.mk H
                clear H
                go_wp2
                go_meet
                case rel => exact ⟨_, (true), (by first | rfl | (simp; done) | (simp [*]; done) | (simp [bne_nil_]; done)), H', ⟨by have := HJ4.out; first | omega | exact Nat.le_refl _⟩, ⟨by repeat (first | (with_reducible first | exact HB.out | apply below_alloc | apply pw_below_drewN | apply below_drew1) | exact HB.out)⟩⟩
              · rw [if_neg c17] at H
                have c17b0 : decide (a0 < 0) = false := decide_eq_false c17
                clear c17
                have H' := Aside0.mk H
                clear H
                go_wp2
                go_meet
                case rel => exact ⟨_, (decide (a0 > 3)), (by first | rfl | (simp; done) | (simp [*]; done) | (simp [bne_nil_]; done)), H', ⟨by have := HJ4.out; first | omega | exact Nat.le_refl _⟩, ⟨by repeat (first | (with_reducible first | exact HB.out | apply below_alloc | apply pw_below_drewN | apply below_drew1) | exact HB.out)⟩⟩
            · rw [if_neg c16] at H
              have c16b0 : (a0 == a2) = false := beq_eq_false_iff_ne.mpr c16
              have c16b1 : (a0 != a2) = true := bne_iff_ne.mpr c16
              (first | rw [c16b0] | (simp only [i64_w, i32_w]; rw [c16b0]) | skip)
              have H' := Aside0.mk H
              clear H
              go_wp2
              go_meet
              case rel => exact ⟨_, (true), (by first | rfl | (simp; done) | (simp [*]; done) | (simp [bne_nil_]; done)), H', ⟨by have := HJ4.out; first | omega | exact Nat.le_refl _⟩, ⟨by repeat (first | (with_reducible first | exact HB.out | apply below_alloc | apply pw_below_drewN | apply below_drew1) | exact HB.out)⟩⟩
          case rest =>
            clear HC11
            try clear c1
            try clear p2
            try clear c3
            try clear c4
            try clear c5
            try clear c6
            try clear c6b0
            try clear c6b1
            try clear c7
            try clear c9
            try clear c16
            try clear c16b0
            try clear c16b1
            try clear c17
            try clear c17b0
            try clear p2
            obtain ⟨kq, x48_10, rfl, HA, HJ10, HB⟩ := hcut
            cases kq with
            | zero => exact absurd HA.out (by simp [laws_FnMixed.j1])
            | succ kj10 =>
              have H := HA.out
              clear HA
              simp only [laws_FnMixed.j1] at H
              by_cases c18 : x48_10 = true
              · subst c18
                have H1 : ((Giv.impl_Mixed.f 0 (⟨#[49]⟩ : ByteArray) 0 (⟨#[50]⟩ : ByteArray)).bind fun bt123 => ((spec_Mixed.f a0 a1 a2 a3).bind fun bt125 => (if t121 = bt125.1 then (if (t122 == bt125.2) = true then (if bt125.1 = 0 then (if bt123.1 = (-1) then (some bt123.2) else (some false)) else (some false)) else (some false)) else (some false)))) = some r := by rw [if_pos rfl] at H; exact H
                clear H
                have H := H1
                clear H1
                replace H := Option.bind_eq_some_iff.mp H
                obtain ⟨⟨t123, t124⟩, A190, H⟩ := H
                replace H : ((spec_Mixed.f a0 a1 a2 a3).bind fun bt125 => (if t121 = bt125.1 then (if (t122 == bt125.2) = true then (if bt125.1 = 0 then (if t123 = (-1) then (some t124) else (some false)) else (some false)) else (some false)) else (some false))) = some r := H
                have A19 := Aside0.mk A190
                clear A190
                replace H := Option.bind_eq_some_iff.mp H
                obtain ⟨⟨t125, t126⟩, A200, H⟩ := H
                replace H : (if t121 = t125 then (if (t122 == t126) = true then (if t125 = 0 then (if t123 = (-1) then (some t124) else (some false)) else (some false)) else (some false)) else (some false)) = some r := H
                have A20 := Aside0.mk A200
                clear A200
                by_cases c21 : t121 = t125
                · rw [if_pos c21] at H
                  have c21b0 : (t121 == t125) = true := beq_iff_eq.mpr c21
                  have c21b1 : (t121 != t125) = false := bne_eq_false_iff_eq.mpr c21
                  clear c21
                  by_cases c22 : (t122 == t126) = true
                  · rw [if_pos c22] at H
                    have c22b0 : (t122 == t126) = true := c22
                    (try (have c22b1 : decide (t122 = t126) = true := by simpa using c22))
                    (try (have c22b2 : (t122 == t126) = true := by simpa using c22))
                    clear c22
                    by_cases c23 : t125 = 0
                    · rw [if_pos c23] at H
                      have c23b0 : (t125 == 0) = true := beq_iff_eq.mpr c23
                      have c23b1 : (t125 != 0) = false := bne_eq_false_iff_eq.mpr c23
                      clear c23
                      by_cases c24 : t123 = (-1)
                      · rw [if_pos c24] at H
                        have c24b0 : (t123 == (-1)) = true := beq_iff_eq.mpr c24
                        have c24b1 : (t123 != (-1)) = false := bne_eq_false_iff_eq.mpr c24
                        clear c24
                        obtain rfl := Option.some.inj H
                        go_wp2_with (first | ((with_reducible refine gate_callee (f := 5) rfl ?_); refine goesL_ (some 50) rfl rfl Tryz.func5 (by kernel_rfl) rfl #[.int .i64 0, .string (⟨#[49]⟩ : ByteArray), .int .i64 0, .string (⟨#[50]⟩ : ByteArray)] rfl (by (try simp only [List.map_toArray, List.map_cons, List.map_nil]); first | done | rfl | (simp only [List.length_drop, List.length_take]; rfl)) ?_; (with_reducible refine (Giv.impl_Mixed.calls 0 (⟨#[49]⟩ : ByteArray) 0 (⟨#[50]⟩ : ByteArray) t123 t124 _ A19.out (HLd.out.below (by repeat (first | (with_reducible first | exact HB.out | apply below_alloc | apply pw_below_drewN | apply below_drew1) | exact HB.out)))).mono ?_); rintro e w25 ⟨rfl, hb⟩; refine ⟨_, rfl, ?_⟩; have n0_ := Aside0.mk (below_step (by repeat (first | (with_reducible first | exact HB.out | apply below_alloc | apply pw_below_drewN | apply below_drew1) | exact HB.out)) hb); clear HB; have HB := n0_; clear n0_; (try clear hb); (try clear hb2); (try clear hk); (try clear hi)) | ((with_reducible refine gate_callee (f := 6) rfl ?_); refine goesL_ (some 58) rfl rfl Tryz.func6 (by kernel_rfl) rfl #[.int .i64 a0, .string a1, .int .i64 a2, .string a3] rfl (by (try simp only [List.map_toArray, List.map_cons, List.map_nil]); first | done | rfl | (simp only [List.length_drop, List.length_take]; rfl)) ?_; (with_reducible refine (spec_Mixed.calls a0 a1 a2 a3 t125 t126 _ A20.out).mono ?_); rintro e w26 ⟨rfl, hb⟩; refine ⟨_, rfl, ?_⟩; have n0_ := Aside0.mk (below_step (by repeat (first | (with_reducible first | exact HB.out | apply below_alloc | apply pw_below_drewN | apply below_drew1) | exact HB.out)) hb); clear HB; have HB := n0_; clear n0_; (try clear hb); (try clear hb2); (try clear hk); (try clear hi)))
                        go_ret
                        exact ⟨by first | rfl | (simp [errW_none, errW_some] <;> rfl) | (simp [*, errW_none, errW_some] <;> rfl) | (simp [bne_nil_]; done), by repeat (first | (with_reducible first | exact HB.out | apply below_alloc | apply pw_below_drewN | apply below_drew1) | exact HB.out)⟩
                      · rw [if_neg c24] at H
                        have c24b0 : (t123 == (-1)) = false := beq_eq_false_iff_ne.mpr c24
                        have c24b1 : (t123 != (-1)) = true := bne_iff_ne.mpr c24
                        obtain rfl := Option.some.inj H
                        go_wp2_with (first | ((with_reducible refine gate_callee (f := 5) rfl ?_); refine goesL_ (some 50) rfl rfl Tryz.func5 (by kernel_rfl) rfl #[.int .i64 0, .string (⟨#[49]⟩ : ByteArray), .int .i64 0, .string (⟨#[50]⟩ : ByteArray)] rfl (by (try simp only [List.map_toArray, List.map_cons, List.map_nil]); first | done | rfl | (simp only [List.length_drop, List.length_take]; rfl)) ?_; (with_reducible refine (Giv.impl_Mixed.calls 0 (⟨#[49]⟩ : ByteArray) 0 (⟨#[50]⟩ : ByteArray) t123 t124 _ A19.out (HLd.out.below (by repeat (first | (with_reducible first | exact HB.out | apply below_alloc | apply pw_below_drewN | apply below_drew1) | exact HB.out)))).mono ?_); rintro e w27 ⟨rfl, hb⟩; refine ⟨_, rfl, ?_⟩; have n0_ := Aside0.mk (below_step (by repeat (first | (with_reducible first | exact HB.out | apply below_alloc | apply pw_below_drewN | apply below_drew1) | exact HB.out)) hb); clear HB; have HB := n0_; clear n0_; (try clear hb); (try clear hb2); (try clear hk); (try clear hi)) | ((with_reducible refine gate_callee (f := 6) rfl ?_); refine goesL_ (some 58) rfl rfl Tryz.func6 (by kernel_rfl) rfl #[.int .i64 a0, .string a1, .int .i64 a2, .string a3] rfl (by (try simp only [List.map_toArray, List.map_cons, List.map_nil]); first | done | rfl | (simp only [List.length_drop, List.length_take]; rfl)) ?_; (with_reducible refine (spec_Mixed.calls a0 a1 a2 a3 t125 t126 _ A20.out).mono ?_); rintro e w28 ⟨rfl, hb⟩; refine ⟨_, rfl, ?_⟩; have n0_ := Aside0.mk (below_step (by repeat (first | (with_reducible first | exact HB.out | apply below_alloc | apply pw_below_drewN | apply below_drew1) | exact HB.out)) hb); clear HB; have HB := n0_; clear n0_; (try clear hb); (try clear hb2); (try clear hk); (try clear hi)))
                        go_ret
                        exact ⟨by first | rfl | (simp [errW_none, errW_some] <;> rfl) | (simp [*, errW_none, errW_some] <;> rfl) | (simp [bne_nil_]; done), by repeat (first | (with_reducible first | exact HB.out | apply below_alloc | apply pw_below_drewN | apply below_drew1) | exact HB.out)⟩
                    · rw [if_neg c23] at H
                      have c23b0 : (t125 == 0) = false := beq_eq_false_iff_ne.mpr c23
                      have c23b1 : (t125 != 0) = true := bne_iff_ne.mpr c23
                      obtain rfl := Option.some.inj H
                      go_wp2_with (first | ((with_reducible refine gate_callee (f := 5) rfl ?_); refine goesL_ (some 50) rfl rfl Tryz.func5 (by kernel_rfl) rfl #[.int .i64 0, .string (⟨#[49]⟩ : ByteArray), .int .i64 0, .string (⟨#[50]⟩ : ByteArray)] rfl (by (try simp only [List.map_toArray, List.map_cons, List.map_nil]); first | done | rfl | (simp only [List.length_drop, List.length_take]; rfl)) ?_; (with_reducible refine (Giv.impl_Mixed.calls 0 (⟨#[49]⟩ : ByteArray) 0 (⟨#[50]⟩ : ByteArray) t123 t124 _ A19.out (HLd.out.below (by repeat (first | (with_reducible first | exact HB.out | apply below_alloc | apply pw_below_drewN | apply below_drew1) | exact HB.out)))).mono ?_); rintro e w29 ⟨rfl, hb⟩; refine ⟨_, rfl, ?_⟩; have n0_ := Aside0.mk (below_step (by repeat (first | (with_reducible first | exact HB.out | apply below_alloc | apply pw_below_drewN | apply below_drew1) | exact HB.out)) hb); clear HB; have HB := n0_; clear n0_; (try clear hb); (try clear hb2); (try clear hk); (try clear hi)) | ((with_reducible refine gate_callee (f := 6) rfl ?_); refine goesL_ (some 58) rfl rfl Tryz.func6 (by kernel_rfl) rfl #[.int .i64 a0, .string a1, .int .i64 a2, .string a3] rfl (by (try simp only [List.map_toArray, List.map_cons, List.map_nil]); first | done | rfl | (simp only [List.length_drop, List.length_take]; rfl)) ?_; (with_reducible refine (spec_Mixed.calls a0 a1 a2 a3 t125 t126 _ A20.out).mono ?_); rintro e w30 ⟨rfl, hb⟩; refine ⟨_, rfl, ?_⟩; have n0_ := Aside0.mk (below_step (by repeat (first | (with_reducible first | exact HB.out | apply below_alloc | apply pw_below_drewN | apply below_drew1) | exact HB.out)) hb); clear HB; have HB := n0_; clear n0_; (try clear hb); (try clear hb2); (try clear hk); (try clear hi)))
                      go_ret
                      exact ⟨by first | rfl | (simp [errW_none, errW_some] <;> rfl) | (simp [*, errW_none, errW_some] <;> rfl) | (simp [bne_nil_]; done), by repeat (first | (with_reducible first | exact HB.out | apply below_alloc | apply pw_below_drewN | apply below_drew1) | exact HB.out)⟩
                  · rw [if_neg c22] at H
                    have c22b0 : (t122 == t126) = false := by simpa using c22
                    (try (have c22b1 : decide (t122 = t126) = false := by simpa using c22))
                    (try (have c22b2 : (t122 == t126) = false := by simpa using c22))
                    (try (have c22b3 : ¬ (t122 = t126) := by simpa using c22))
                    clear c22
                    obtain rfl := Option.some.inj H
                    go_wp2_with (first | ((with_reducible refine gate_callee (f := 5) rfl ?_); refine goesL_ (some 50) rfl rfl Tryz.func5 (by kernel_rfl) rfl #[.int .i64 0, .string (⟨#[49]⟩ : ByteArray), .int .i64 0, .string (⟨#[50]⟩ : ByteArray)] rfl (by (try simp only [List.map_toArray, List.map_cons, List.map_nil]); first | done | rfl | (simp only [List.length_drop, List.length_take]; rfl)) ?_; (with_reducible refine (Giv.impl_Mixed.calls 0 (⟨#[49]⟩ : ByteArray) 0 (⟨#[50]⟩ : ByteArray) t123 t124 _ A19.out (HLd.out.below (by repeat (first | (with_reducible first | exact HB.out | apply below_alloc | apply pw_below_drewN | apply below_drew1) | exact HB.out)))).mono ?_); rintro e w31 ⟨rfl, hb⟩; refine ⟨_, rfl, ?_⟩; have n0_ := Aside0.mk (below_step (by repeat (first | (with_reducible first | exact HB.out | apply below_alloc | apply pw_below_drewN | apply below_drew1) | exact HB.out)) hb); clear HB; have HB := n0_; clear n0_; (try clear hb); (try clear hb2); (try clear hk); (try clear hi)) | ((with_reducible refine gate_callee (f := 6) rfl ?_); refine goesL_ (some 58) rfl rfl Tryz.func6 (by kernel_rfl) rfl #[.int .i64 a0, .string a1, .int .i64 a2, .string a3] rfl (by (try simp only [List.map_toArray, List.map_cons, List.map_nil]); first | done | rfl | (simp only [List.length_drop, List.length_take]; rfl)) ?_; (with_reducible refine (spec_Mixed.calls a0 a1 a2 a3 t125 t126 _ A20.out).mono ?_); rintro e w32 ⟨rfl, hb⟩; refine ⟨_, rfl, ?_⟩; have n0_ := Aside0.mk (below_step (by repeat (first | (with_reducible first | exact HB.out | apply below_alloc | apply pw_below_drewN | apply below_drew1) | exact HB.out)) hb); clear HB; have HB := n0_; clear n0_; (try clear hb); (try clear hb2); (try clear hk); (try clear hi)))
                    go_ret
                    exact ⟨by first | rfl | (simp [errW_none, errW_some] <;> rfl) | (simp [*, errW_none, errW_some] <;> rfl) | (simp [bne_nil_]; done), by repeat (first | (with_reducible first | exact HB.out | apply below_alloc | apply pw_below_drewN | apply below_drew1) | exact HB.out)⟩
                · rw [if_neg c21] at H
                  have c21b0 : (t121 == t125) = false := beq_eq_false_iff_ne.mpr c21
                  have c21b1 : (t121 != t125) = true := bne_iff_ne.mpr c21
                  obtain rfl := Option.some.inj H
                  go_wp2_with (first | ((with_reducible refine gate_callee (f := 5) rfl ?_); refine goesL_ (some 50) rfl rfl Tryz.func5 (by kernel_rfl) rfl #[.int .i64 0, .string (⟨#[49]⟩ : ByteArray), .int .i64 0, .string (⟨#[50]⟩ : ByteArray)] rfl (by (try simp only [List.map_toArray, List.map_cons, List.map_nil]); first | done | rfl | (simp only [List.length_drop, List.length_take]; rfl)) ?_; (with_reducible refine (Giv.impl_Mixed.calls 0 (⟨#[49]⟩ : ByteArray) 0 (⟨#[50]⟩ : ByteArray) t123 t124 _ A19.out (HLd.out.below (by repeat (first | (with_reducible first | exact HB.out | apply below_alloc | apply pw_below_drewN | apply below_drew1) | exact HB.out)))).mono ?_); rintro e w33 ⟨rfl, hb⟩; refine ⟨_, rfl, ?_⟩; have n0_ := Aside0.mk (below_step (by repeat (first | (with_reducible first | exact HB.out | apply below_alloc | apply pw_below_drewN | apply below_drew1) | exact HB.out)) hb); clear HB; have HB := n0_; clear n0_; (try clear hb); (try clear hb2); (try clear hk); (try clear hi)) | ((with_reducible refine gate_callee (f := 6) rfl ?_); refine goesL_ (some 58) rfl rfl Tryz.func6 (by kernel_rfl) rfl #[.int .i64 a0, .string a1, .int .i64 a2, .string a3] rfl (by (try simp only [List.map_toArray, List.map_cons, List.map_nil]); first | done | rfl | (simp only [List.length_drop, List.length_take]; rfl)) ?_; (with_reducible refine (spec_Mixed.calls a0 a1 a2 a3 t125 t126 _ A20.out).mono ?_); rintro e w34 ⟨rfl, hb⟩; refine ⟨_, rfl, ?_⟩; have n0_ := Aside0.mk (below_step (by repeat (first | (with_reducible first | exact HB.out | apply below_alloc | apply pw_below_drewN | apply below_drew1) | exact HB.out)) hb); clear HB; have HB := n0_; clear n0_; (try clear hb); (try clear hb2); (try clear hk); (try clear hi)))
                  go_ret
                  exact ⟨by first | rfl | (simp [errW_none, errW_some] <;> rfl) | (simp [*, errW_none, errW_some] <;> rfl) | (simp [bne_nil_]; done), by repeat (first | (with_reducible first | exact HB.out | apply below_alloc | apply pw_below_drewN | apply below_drew1) | exact HB.out)⟩
              · replace c18 := Bool.eq_false_iff.mpr c18
                subst c18
                have H1 : (if a0 = 0 then ((Giv.mx_DebianCompare.f a1 a3).bind fun bt127 => (if t121 = bt127.1 then (if (t122 == bt127.2) = true then ((laws_debianAwake.f).bind fun t129 => (some t129)) else (some false)) else (some false))) else (if a0 = 1 then ((Giv.mx_RedHatCompare.f a1 a3).bind fun bt130 => (if t121 = bt130.1 then (if (t122 == bt130.2) = true then ((laws_debianAwake.f).bind fun t132 => (some t132)) else (some false)) else (some false))) else (if a0 = 2 then ((Giv.mx_CRANCompare.f a1 a3).bind fun bt133 => (if t121 = bt133.1 then (if (t122 == bt133.2) = true then ((laws_debianAwake.f).bind fun t135 => (some t135)) else (some false)) else (some false))) else ((Giv.mx_RubyCompare.f a1 a3).bind fun bt136 => (if t121 = bt136.1 then (if (t122 == bt136.2) = true then ((laws_debianAwake.f).bind fun t138 => (some t138)) else (some false)) else (some false)))))) = some r := by rw [if_neg (show ¬ (false = true) by decide)] at H; exact H
                clear H
                have H := H1
                clear H1
                by_cases c35 : a0 = 0
                · rw [if_pos c35] at H
                  have c35b0 : (a0 == 0) = true := beq_iff_eq.mpr c35
                  have c35b1 : (a0 != 0) = false := bne_eq_false_iff_eq.mpr c35
                  clear c35
                  replace H := Option.bind_eq_some_iff.mp H
                  obtain ⟨⟨t127, t128⟩, A360, H⟩ := H
                  replace H : (if t121 = t127 then (if (t122 == t128) = true then ((laws_debianAwake.f).bind fun t129 => (some t129)) else (some false)) else (some false)) = some r := H
                  have A36 := Aside0.mk A360
                  clear A360
                  by_cases c37 : t121 = t127
                  · rw [if_pos c37] at H
                    have c37b0 : (t121 == t127) = true := beq_iff_eq.mpr c37
                    have c37b1 : (t121 != t127) = false := bne_eq_false_iff_eq.mpr c37
                    clear c37
                    by_cases c38 : (t122 == t128) = true
                    · rw [if_pos c38] at H
                      have c38b0 : (t122 == t128) = true := c38
                      (try (have c38b1 : decide (t122 = t128) = true := by simpa using c38))
                      (try (have c38b2 : (t122 == t128) = true := by simpa using c38))
                      clear c38
                      replace H := Option.bind_eq_some_iff.mp H
                      obtain ⟨t129, A390, H⟩ := H
                      replace H : (some t129) = some r := H
                      have A39 := Aside0.mk A390
                      clear A390
                      obtain rfl := Option.some.inj H
                      go_wp2_with (first | ((with_reducible refine gate_callee (f := 7) rfl ?_); refine goesL_ (some 92) rfl rfl Tryz.func7 (by kernel_rfl) rfl #[.string a1, .string a3] rfl (by (try simp only [List.map_toArray, List.map_cons, List.map_nil]); first | done | rfl | (simp only [List.length_drop, List.length_take]; rfl)) ?_; (with_reducible refine (Giv.mx_DebianCompare.calls a1 a3 t127 t128 _ A36.out (HLd.out.below (by repeat (first | (with_reducible first | exact HB.out | apply below_alloc | apply pw_below_drewN | apply below_drew1) | exact HB.out)))).mono ?_); rintro e w40 ⟨rfl, hb⟩; refine ⟨_, rfl, ?_⟩; have n0_ := Aside0.mk (below_step (by repeat (first | (with_reducible first | exact HB.out | apply below_alloc | apply pw_below_drewN | apply below_drew1) | exact HB.out)) hb); clear HB; have HB := n0_; clear n0_; (try clear hb); (try clear hb2); (try clear hk); (try clear hi)) | (go_at_call 11; (with_reducible refine (laws_debianAwake.calls  t129 _ A39.out (HLd.out.below (by repeat (first | (with_reducible first | exact HB.out | apply below_alloc | apply pw_below_drewN | apply below_drew1) | exact HB.out)))).mono ?_); rintro e w41 ⟨rfl, hb⟩; have n0_ := Aside0.mk (below_step (by repeat (first | (with_reducible first | exact HB.out | apply below_alloc | apply pw_below_drewN | apply below_drew1) | exact HB.out)) hb); clear HB; have HB := n0_; clear n0_; (try clear hb); (try clear hb2); (try clear hk); (try clear hi)))
                      go_ret
                      exact ⟨by first | rfl | (simp [errW_none, errW_some] <;> rfl) | (simp [*, errW_none, errW_some] <;> rfl) | (simp [bne_nil_]; done), by repeat (first | (with_reducible first | exact HB.out | apply below_alloc | apply pw_below_drewN | apply below_drew1) | exact HB.out)⟩
                    · rw [if_neg c38] at H
                      have c38b0 : (t122 == t128) = false := by simpa using c38
                      (try (have c38b1 : decide (t122 = t128) = false := by simpa using c38))
                      (try (have c38b2 : (t122 == t128) = false := by simpa using c38))
                      (try (have c38b3 : ¬ (t122 = t128) := by simpa using c38))
                      clear c38
                      obtain rfl := Option.some.inj H
                      go_wp2_with (first | ((with_reducible refine gate_callee (f := 7) rfl ?_); refine goesL_ (some 92) rfl rfl Tryz.func7 (by kernel_rfl) rfl #[.string a1, .string a3] rfl (by (try simp only [List.map_toArray, List.map_cons, List.map_nil]); first | done | rfl | (simp only [List.length_drop, List.length_take]; rfl)) ?_; (with_reducible refine (Giv.mx_DebianCompare.calls a1 a3 t127 t128 _ A36.out (HLd.out.below (by repeat (first | (with_reducible first | exact HB.out | apply below_alloc | apply pw_below_drewN | apply below_drew1) | exact HB.out)))).mono ?_); rintro e w42 ⟨rfl, hb⟩; refine ⟨_, rfl, ?_⟩; have n0_ := Aside0.mk (below_step (by repeat (first | (with_reducible first | exact HB.out | apply below_alloc | apply pw_below_drewN | apply below_drew1) | exact HB.out)) hb); clear HB; have HB := n0_; clear n0_; (try clear hb); (try clear hb2); (try clear hk); (try clear hi)))
                      go_ret
                      exact ⟨by first | rfl | (simp [errW_none, errW_some] <;> rfl) | (simp [*, errW_none, errW_some] <;> rfl) | (simp [bne_nil_]; done), by repeat (first | (with_reducible first | exact HB.out | apply below_alloc | apply pw_below_drewN | apply below_drew1) | exact HB.out)⟩
                  · rw [if_neg c37] at H
                    have c37b0 : (t121 == t127) = false := beq_eq_false_iff_ne.mpr c37
                    have c37b1 : (t121 != t127) = true := bne_iff_ne.mpr c37
                    obtain rfl := Option.some.inj H
                    go_wp2_with (first | ((with_reducible refine gate_callee (f := 7) rfl ?_); refine goesL_ (some 92) rfl rfl Tryz.func7 (by kernel_rfl) rfl #[.string a1, .string a3] rfl (by (try simp only [List.map_toArray, List.map_cons, List.map_nil]); first | done | rfl | (simp only [List.length_drop, List.length_take]; rfl)) ?_; (with_reducible refine (Giv.mx_DebianCompare.calls a1 a3 t127 t128 _ A36.out (HLd.out.below (by repeat (first | (with_reducible first | exact HB.out | apply below_alloc | apply pw_below_drewN | apply below_drew1) | exact HB.out)))).mono ?_); rintro e w43 ⟨rfl, hb⟩; refine ⟨_, rfl, ?_⟩; have n0_ := Aside0.mk (below_step (by repeat (first | (with_reducible first | exact HB.out | apply below_alloc | apply pw_below_drewN | apply below_drew1) | exact HB.out)) hb); clear HB; have HB := n0_; clear n0_; (try clear hb); (try clear hb2); (try clear hk); (try clear hi)))
                    go_ret
                    exact ⟨by first | rfl | (simp [errW_none, errW_some] <;> rfl) | (simp [*, errW_none, errW_some] <;> rfl) | (simp [bne_nil_]; done), by repeat (first | (with_reducible first | exact HB.out | apply below_alloc | apply pw_below_drewN | apply below_drew1) | exact HB.out)⟩
                · rw [if_neg c35] at H
                  have c35b0 : (a0 == 0) = false := beq_eq_false_iff_ne.mpr c35
                  have c35b1 : (a0 != 0) = true := bne_iff_ne.mpr c35
                  by_cases c44 : a0 = 1
                  · rw [if_pos c44] at H
                    have c44b0 : (a0 == 1) = true := beq_iff_eq.mpr c44
                    have c44b1 : (a0 != 1) = false := bne_eq_false_iff_eq.mpr c44
                    clear c44
                    replace H := Option.bind_eq_some_iff.mp H
                    obtain ⟨⟨t130, t131⟩, A450, H⟩ := H
                    replace H : (if t121 = t130 then (if (t122 == t131) = true then ((laws_debianAwake.f).bind fun t132 => (some t132)) else (some false)) else (some false)) = some r := H
                    have A45 := Aside0.mk A450
                    clear A450
                    by_cases c46 : t121 = t130
                    · rw [if_pos c46] at H
                      have c46b0 : (t121 == t130) = true := beq_iff_eq.mpr c46
                      have c46b1 : (t121 != t130) = false := bne_eq_false_iff_eq.mpr c46
                      clear c46
                      by_cases c47 : (t122 == t131) = true
                      · rw [if_pos c47] at H
                        have c47b0 : (t122 == t131) = true := c47
                        (try (have c47b1 : decide (t122 = t131) = true := by simpa using c47))
                        (try (have c47b2 : (t122 == t131) = true := by simpa using c47))
                        clear c47
                        replace H := Option.bind_eq_some_iff.mp H
                        obtain ⟨t132, A480, H⟩ := H
                        replace H : (some t132) = some r := H
                        have A48 := Aside0.mk A480
                        clear A480
                        obtain rfl := Option.some.inj H
                        go_wp2_with (first | ((with_reducible refine gate_callee (f := 8) rfl ?_); refine goesL_ (some 100) rfl rfl Tryz.func8 (by kernel_rfl) rfl #[.string a1, .string a3] rfl (by (try simp only [List.map_toArray, List.map_cons, List.map_nil]); first | done | rfl | (simp only [List.length_drop, List.length_take]; rfl)) ?_; (with_reducible refine (Giv.mx_RedHatCompare.calls a1 a3 t130 t131 _ A45.out (HLd.out.below (by repeat (first | (with_reducible first | exact HB.out | apply below_alloc | apply pw_below_drewN | apply below_drew1) | exact HB.out)))).mono ?_); rintro e w49 ⟨rfl, hb⟩; refine ⟨_, rfl, ?_⟩; have n0_ := Aside0.mk (below_step (by repeat (first | (with_reducible first | exact HB.out | apply below_alloc | apply pw_below_drewN | apply below_drew1) | exact HB.out)) hb); clear HB; have HB := n0_; clear n0_; (try clear hb); (try clear hb2); (try clear hk); (try clear hi)) | (go_at_call 11; (with_reducible refine (laws_debianAwake.calls  t132 _ A48.out (HLd.out.below (by repeat (first | (with_reducible first | exact HB.out | apply below_alloc | apply pw_below_drewN | apply below_drew1) | exact HB.out)))).mono ?_); rintro e w50 ⟨rfl, hb⟩; have n0_ := Aside0.mk (below_step (by repeat (first | (with_reducible first | exact HB.out | apply below_alloc | apply pw_below_drewN | apply below_drew1) | exact HB.out)) hb); clear HB; have HB := n0_; clear n0_; (try clear hb); (try clear hb2); (try clear hk); (try clear hi)))
                        go_ret
                        exact ⟨by first | rfl | (simp [errW_none, errW_some] <;> rfl) | (simp [*, errW_none, errW_some] <;> rfl) | (simp [bne_nil_]; done), by repeat (first | (with_reducible first | exact HB.out | apply below_alloc | apply pw_below_drewN | apply below_drew1) | exact HB.out)⟩
                      · rw [if_neg c47] at H
                        have c47b0 : (t122 == t131) = false := by simpa using c47
                        (try (have c47b1 : decide (t122 = t131) = false := by simpa using c47))
                        (try (have c47b2 : (t122 == t131) = false := by simpa using c47))
                        (try (have c47b3 : ¬ (t122 = t131) := by simpa using c47))
                        clear c47
                        obtain rfl := Option.some.inj H
                        go_wp2_with (first | ((with_reducible refine gate_callee (f := 8) rfl ?_); refine goesL_ (some 100) rfl rfl Tryz.func8 (by kernel_rfl) rfl #[.string a1, .string a3] rfl (by (try simp only [List.map_toArray, List.map_cons, List.map_nil]); first | done | rfl | (simp only [List.length_drop, List.length_take]; rfl)) ?_; (with_reducible refine (Giv.mx_RedHatCompare.calls a1 a3 t130 t131 _ A45.out (HLd.out.below (by repeat (first | (with_reducible first | exact HB.out | apply below_alloc | apply pw_below_drewN | apply below_drew1) | exact HB.out)))).mono ?_); rintro e w51 ⟨rfl, hb⟩; refine ⟨_, rfl, ?_⟩; have n0_ := Aside0.mk (below_step (by repeat (first | (with_reducible first | exact HB.out | apply below_alloc | apply pw_below_drewN | apply below_drew1) | exact HB.out)) hb); clear HB; have HB := n0_; clear n0_; (try clear hb); (try clear hb2); (try clear hk); (try clear hi)))
                        go_ret
                        exact ⟨by first | rfl | (simp [errW_none, errW_some] <;> rfl) | (simp [*, errW_none, errW_some] <;> rfl) | (simp [bne_nil_]; done), by repeat (first | (with_reducible first | exact HB.out | apply below_alloc | apply pw_below_drewN | apply below_drew1) | exact HB.out)⟩
                    · rw [if_neg c46] at H
                      have c46b0 : (t121 == t130) = false := beq_eq_false_iff_ne.mpr c46
                      have c46b1 : (t121 != t130) = true := bne_iff_ne.mpr c46
                      obtain rfl := Option.some.inj H
                      go_wp2_with (first | ((with_reducible refine gate_callee (f := 8) rfl ?_); refine goesL_ (some 100) rfl rfl Tryz.func8 (by kernel_rfl) rfl #[.string a1, .string a3] rfl (by (try simp only [List.map_toArray, List.map_cons, List.map_nil]); first | done | rfl | (simp only [List.length_drop, List.length_take]; rfl)) ?_; (with_reducible refine (Giv.mx_RedHatCompare.calls a1 a3 t130 t131 _ A45.out (HLd.out.below (by repeat (first | (with_reducible first | exact HB.out | apply below_alloc | apply pw_below_drewN | apply below_drew1) | exact HB.out)))).mono ?_); rintro e w52 ⟨rfl, hb⟩; refine ⟨_, rfl, ?_⟩; have n0_ := Aside0.mk (below_step (by repeat (first | (with_reducible first | exact HB.out | apply below_alloc | apply pw_below_drewN | apply below_drew1) | exact HB.out)) hb); clear HB; have HB := n0_; clear n0_; (try clear hb); (try clear hb2); (try clear hk); (try clear hi)))
                      go_ret
                      exact ⟨by first | rfl | (simp [errW_none, errW_some] <;> rfl) | (simp [*, errW_none, errW_some] <;> rfl) | (simp [bne_nil_]; done), by repeat (first | (with_reducible first | exact HB.out | apply below_alloc | apply pw_below_drewN | apply below_drew1) | exact HB.out)⟩
                  · rw [if_neg c44] at H
                    have c44b0 : (a0 == 1) = false := beq_eq_false_iff_ne.mpr c44
                    have c44b1 : (a0 != 1) = true := bne_iff_ne.mpr c44
                    by_cases c53 : a0 = 2
                    · rw [if_pos c53] at H
                      have c53b0 : (a0 == 2) = true := beq_iff_eq.mpr c53
                      have c53b1 : (a0 != 2) = false := bne_eq_false_iff_eq.mpr c53
                      clear c53
                      replace H := Option.bind_eq_some_iff.mp H
                      obtain ⟨⟨t133, t134⟩, A540, H⟩ := H
                      replace H : (if t121 = t133 then (if (t122 == t134) = true then ((laws_debianAwake.f).bind fun t135 => (some t135)) else (some false)) else (some false)) = some r := H
                      have A54 := Aside0.mk A540
                      clear A540
                      by_cases c55 : t121 = t133
                      · rw [if_pos c55] at H
                        have c55b0 : (t121 == t133) = true := beq_iff_eq.mpr c55
                        have c55b1 : (t121 != t133) = false := bne_eq_false_iff_eq.mpr c55
                        clear c55
                        by_cases c56 : (t122 == t134) = true
                        · rw [if_pos c56] at H
                          have c56b0 : (t122 == t134) = true := c56
                          (try (have c56b1 : decide (t122 = t134) = true := by simpa using c56))
                          (try (have c56b2 : (t122 == t134) = true := by simpa using c56))
                          clear c56
                          replace H := Option.bind_eq_some_iff.mp H
                          obtain ⟨t135, A570, H⟩ := H
                          replace H : (some t135) = some r := H
                          have A57 := Aside0.mk A570
                          clear A570
                          obtain rfl := Option.some.inj H
                          go_wp2_with (first | ((with_reducible refine gate_callee (f := 9) rfl ?_); refine goesL_ (some 108) rfl rfl Tryz.func9 (by kernel_rfl) rfl #[.string a1, .string a3] rfl (by (try simp only [List.map_toArray, List.map_cons, List.map_nil]); first | done | rfl | (simp only [List.length_drop, List.length_take]; rfl)) ?_; (with_reducible refine (Giv.mx_CRANCompare.calls a1 a3 t133 t134 _ A54.out (HLd.out.below (by repeat (first | (with_reducible first | exact HB.out | apply below_alloc | apply pw_below_drewN | apply below_drew1) | exact HB.out)))).mono ?_); rintro e w58 ⟨rfl, hb⟩; refine ⟨_, rfl, ?_⟩; have n0_ := Aside0.mk (below_step (by repeat (first | (with_reducible first | exact HB.out | apply below_alloc | apply pw_below_drewN | apply below_drew1) | exact HB.out)) hb); clear HB; have HB := n0_; clear n0_; (try clear hb); (try clear hb2); (try clear hk); (try clear hi)) | (go_at_call 11; (with_reducible refine (laws_debianAwake.calls  t135 _ A57.out (HLd.out.below (by repeat (first | (with_reducible first | exact HB.out | apply below_alloc | apply pw_below_drewN | apply below_drew1) | exact HB.out)))).mono ?_); rintro e w59 ⟨rfl, hb⟩; have n0_ := Aside0.mk (below_step (by repeat (first | (with_reducible first | exact HB.out | apply below_alloc | apply pw_below_drewN | apply below_drew1) | exact HB.out)) hb); clear HB; have HB := n0_; clear n0_; (try clear hb); (try clear hb2); (try clear hk); (try clear hi)))
                          go_ret
                          exact ⟨by first | rfl | (simp [errW_none, errW_some] <;> rfl) | (simp [*, errW_none, errW_some] <;> rfl) | (simp [bne_nil_]; done), by repeat (first | (with_reducible first | exact HB.out | apply below_alloc | apply pw_below_drewN | apply below_drew1) | exact HB.out)⟩
                        · rw [if_neg c56] at H
                          have c56b0 : (t122 == t134) = false := by simpa using c56
                          (try (have c56b1 : decide (t122 = t134) = false := by simpa using c56))
                          (try (have c56b2 : (t122 == t134) = false := by simpa using c56))
                          (try (have c56b3 : ¬ (t122 = t134) := by simpa using c56))
                          clear c56
                          obtain rfl := Option.some.inj H
                          go_wp2_with (first | ((with_reducible refine gate_callee (f := 9) rfl ?_); refine goesL_ (some 108) rfl rfl Tryz.func9 (by kernel_rfl) rfl #[.string a1, .string a3] rfl (by (try simp only [List.map_toArray, List.map_cons, List.map_nil]); first | done | rfl | (simp only [List.length_drop, List.length_take]; rfl)) ?_; (with_reducible refine (Giv.mx_CRANCompare.calls a1 a3 t133 t134 _ A54.out (HLd.out.below (by repeat (first | (with_reducible first | exact HB.out | apply below_alloc | apply pw_below_drewN | apply below_drew1) | exact HB.out)))).mono ?_); rintro e w60 ⟨rfl, hb⟩; refine ⟨_, rfl, ?_⟩; have n0_ := Aside0.mk (below_step (by repeat (first | (with_reducible first | exact HB.out | apply below_alloc | apply pw_below_drewN | apply below_drew1) | exact HB.out)) hb); clear HB; have HB := n0_; clear n0_; (try clear hb); (try clear hb2); (try clear hk); (try clear hi)))
                          go_ret
                          exact ⟨by first | rfl | (simp [errW_none, errW_some] <;> rfl) | (simp [*, errW_none, errW_some] <;> rfl) | (simp [bne_nil_]; done), by repeat (first | (with_reducible first | exact HB.out | apply below_alloc | apply pw_below_drewN | apply below_drew1) | exact HB.out)⟩
                      · rw [if_neg c55] at H
                        have c55b0 : (t121 == t133) = false := beq_eq_false_iff_ne.mpr c55
                        have c55b1 : (t121 != t133) = true := bne_iff_ne.mpr c55
                        obtain rfl := Option.some.inj H
                        go_wp2_with (first | ((with_reducible refine gate_callee (f := 9) rfl ?_); refine goesL_ (some 108) rfl rfl Tryz.func9 (by kernel_rfl) rfl #[.string a1, .string a3] rfl (by (try simp only [List.map_toArray, List.map_cons, List.map_nil]); first | done | rfl | (simp only [List.length_drop, List.length_take]; rfl)) ?_; (with_reducible refine (Giv.mx_CRANCompare.calls a1 a3 t133 t134 _ A54.out (HLd.out.below (by repeat (first | (with_reducible first | exact HB.out | apply below_alloc | apply pw_below_drewN | apply below_drew1) | exact HB.out)))).mono ?_); rintro e w61 ⟨rfl, hb⟩; refine ⟨_, rfl, ?_⟩; have n0_ := Aside0.mk (below_step (by repeat (first | (with_reducible first | exact HB.out | apply below_alloc | apply pw_below_drewN | apply below_drew1) | exact HB.out)) hb); clear HB; have HB := n0_; clear n0_; (try clear hb); (try clear hb2); (try clear hk); (try clear hi)))
                        go_ret
                        exact ⟨by first | rfl | (simp [errW_none, errW_some] <;> rfl) | (simp [*, errW_none, errW_some] <;> rfl) | (simp [bne_nil_]; done), by repeat (first | (with_reducible first | exact HB.out | apply below_alloc | apply pw_below_drewN | apply below_drew1) | exact HB.out)⟩
                    · rw [if_neg c53] at H
                      have c53b0 : (a0 == 2) = false := beq_eq_false_iff_ne.mpr c53
                      have c53b1 : (a0 != 2) = true := bne_iff_ne.mpr c53
                      replace H := Option.bind_eq_some_iff.mp H
                      obtain ⟨⟨t136, t137⟩, A620, H⟩ := H
                      replace H : (if t121 = t136 then (if (t122 == t137) = true then ((laws_debianAwake.f).bind fun t138 => (some t138)) else (some false)) else (some false)) = some r := H
                      have A62 := Aside0.mk A620
                      clear A620
                      by_cases c63 : t121 = t136
                      · rw [if_pos c63] at H
                        have c63b0 : (t121 == t136) = true := beq_iff_eq.mpr c63
                        have c63b1 : (t121 != t136) = false := bne_eq_false_iff_eq.mpr c63
                        clear c63
                        by_cases c64 : (t122 == t137) = true
                        · rw [if_pos c64] at H
                          have c64b0 : (t122 == t137) = true := c64
                          (try (have c64b1 : decide (t122 = t137) = true := by simpa using c64))
                          (try (have c64b2 : (t122 == t137) = true := by simpa using c64))
                          clear c64
                          replace H := Option.bind_eq_some_iff.mp H
                          obtain ⟨t138, A650, H⟩ := H
                          replace H : (some t138) = some r := H
                          have A65 := Aside0.mk A650
                          clear A650
                          obtain rfl := Option.some.inj H
                          go_wp2_with (first | ((with_reducible refine gate_callee (f := 10) rfl ?_); refine goesL_ (some 84) rfl rfl Tryz.func10 (by kernel_rfl) rfl #[.string a1, .string a3] rfl (by (try simp only [List.map_toArray, List.map_cons, List.map_nil]); first | done | rfl | (simp only [List.length_drop, List.length_take]; rfl)) ?_; (with_reducible refine (Giv.mx_RubyCompare.calls a1 a3 t136 t137 _ A62.out (HLd.out.below (by repeat (first | (with_reducible first | exact HB.out | apply below_alloc | apply pw_below_drewN | apply below_drew1) | exact HB.out)))).mono ?_); rintro e w66 ⟨rfl, hb⟩; refine ⟨_, rfl, ?_⟩; have n0_ := Aside0.mk (below_step (by repeat (first | (with_reducible first | exact HB.out | apply below_alloc | apply pw_below_drewN | apply below_drew1) | exact HB.out)) hb); clear HB; have HB := n0_; clear n0_; (try clear hb); (try clear hb2); (try clear hk); (try clear hi)) | (go_at_call 11; (with_reducible refine (laws_debianAwake.calls  t138 _ A65.out (HLd.out.below (by repeat (first | (with_reducible first | exact HB.out | apply below_alloc | apply pw_below_drewN | apply below_drew1) | exact HB.out)))).mono ?_); rintro e w67 ⟨rfl, hb⟩; have n0_ := Aside0.mk (below_step (by repeat (first | (with_reducible first | exact HB.out | apply below_alloc | apply pw_below_drewN | apply below_drew1) | exact HB.out)) hb); clear HB; have HB := n0_; clear n0_; (try clear hb); (try clear hb2); (try clear hk); (try clear hi)))
                          go_ret
                          exact ⟨by first | rfl | (simp [errW_none, errW_some] <;> rfl) | (simp [*, errW_none, errW_some] <;> rfl) | (simp [bne_nil_]; done), by repeat (first | (with_reducible first | exact HB.out | apply below_alloc | apply pw_below_drewN | apply below_drew1) | exact HB.out)⟩
                        · rw [if_neg c64] at H
                          have c64b0 : (t122 == t137) = false := by simpa using c64
                          (try (have c64b1 : decide (t122 = t137) = false := by simpa using c64))
                          (try (have c64b2 : (t122 == t137) = false := by simpa using c64))
                          (try (have c64b3 : ¬ (t122 = t137) := by simpa using c64))
                          clear c64
                          obtain rfl := Option.some.inj H
                          go_wp2_with (first | ((with_reducible refine gate_callee (f := 10) rfl ?_); refine goesL_ (some 84) rfl rfl Tryz.func10 (by kernel_rfl) rfl #[.string a1, .string a3] rfl (by (try simp only [List.map_toArray, List.map_cons, List.map_nil]); first | done | rfl | (simp only [List.length_drop, List.length_take]; rfl)) ?_; (with_reducible refine (Giv.mx_RubyCompare.calls a1 a3 t136 t137 _ A62.out (HLd.out.below (by repeat (first | (with_reducible first | exact HB.out | apply below_alloc | apply pw_below_drewN | apply below_drew1) | exact HB.out)))).mono ?_); rintro e w68 ⟨rfl, hb⟩; refine ⟨_, rfl, ?_⟩; have n0_ := Aside0.mk (below_step (by repeat (first | (with_reducible first | exact HB.out | apply below_alloc | apply pw_below_drewN | apply below_drew1) | exact HB.out)) hb); clear HB; have HB := n0_; clear n0_; (try clear hb); (try clear hb2); (try clear hk); (try clear hi)))
                          go_ret
                          exact ⟨by first | rfl | (simp [errW_none, errW_some] <;> rfl) | (simp [*, errW_none, errW_some] <;> rfl) | (simp [bne_nil_]; done), by repeat (first | (with_reducible first | exact HB.out | apply below_alloc | apply pw_below_drewN | apply below_drew1) | exact HB.out)⟩
                      · rw [if_neg c63] at H
                        have c63b0 : (t121 == t136) = false := beq_eq_false_iff_ne.mpr c63
                        have c63b1 : (t121 != t136) = true := bne_iff_ne.mpr c63
                        obtain rfl := Option.some.inj H
                        go_wp2_with (first | ((with_reducible refine gate_callee (f := 10) rfl ?_); refine goesL_ (some 84) rfl rfl Tryz.func10 (by kernel_rfl) rfl #[.string a1, .string a3] rfl (by (try simp only [List.map_toArray, List.map_cons, List.map_nil]); first | done | rfl | (simp only [List.length_drop, List.length_take]; rfl)) ?_; (with_reducible refine (Giv.mx_RubyCompare.calls a1 a3 t136 t137 _ A62.out (HLd.out.below (by repeat (first | (with_reducible first | exact HB.out | apply below_alloc | apply pw_below_drewN | apply below_drew1) | exact HB.out)))).mono ?_); rintro e w69 ⟨rfl, hb⟩; refine ⟨_, rfl, ?_⟩; have n0_ := Aside0.mk (below_step (by repeat (first | (with_reducible first | exact HB.out | apply below_alloc | apply pw_below_drewN | apply below_drew1) | exact HB.out)) hb); clear HB; have HB := n0_; clear n0_; (try clear hb); (try clear hb2); (try clear hk); (try clear hi)))
                        go_ret
                        exact ⟨by first | rfl | (simp [errW_none, errW_some] <;> rfl) | (simp [*, errW_none, errW_some] <;> rfl) | (simp [bne_nil_]; done), by repeat (first | (with_reducible first | exact HB.out | apply below_alloc | apply pw_below_drewN | apply below_drew1) | exact HB.out)⟩
        · replace c9 := Bool.eq_false_iff.mpr c9
          subst c9
          have H1 : (some true) = some r := by rw [if_neg (show ¬ (false = true) by decide)] at H; exact H
          clear H
          have H := H1
          clear H1
          obtain rfl := Option.some.inj H
          go_wp2_with (first | ((with_reducible refine gate_dst (N := 27) rfl ?_); (try (refine gate_guard (by rfl) ?_; dsimp only)); refine Kd.R_lit Kd.string _ 9 ?hg (N := 27) ?hd (xs := ([a1, a3] : List ByteArray)) (inner := [.string a1, .string a3]) (ok := fun _ => True) (okp := fun _ => True) ?hr ?hp (fun _ hk => hk) trivial (Below.refl _ _) (Nat.le_refl _) (by simp) ?_; (case hd => rfl); (case hg => rfl); (case hr => first | (go_simp; done) | (go_simp; rfl)); (case hp => exact (Reps.one (show Kd.M Kd.string _ _ _ a1 [.string a1] from rfl) (Reps.one (show Kd.M Kd.string _ _ _ a3 [.string a3] from rfl) (Reps.none _ _)))); intro v118 w70 ho71 hb hg_ hnew_; clear hg_ hnew_; (first | rw [← Ny117.out] at ho71 | (simp only [Int.reduceToNat] at ho71; rw [← Ny117.out] at ho71)); have n0_ := Aside0.mk (Kd.R_lower ho71 (below_size (by repeat (first | (with_reducible first | exact HB.out | apply below_alloc | apply pw_below_drewN | apply below_drew1) | exact HB.out)))); have n1_ := Aside0.mk (below_step (by repeat (first | (with_reducible first | exact HB.out | apply below_alloc | apply pw_below_drewN | apply below_drew1) | exact HB.out)) hb); clear HB; have HO119 := n0_; have HB := n1_; clear n0_ n1_; clear hb ho71; obtain ⟨Ao72, co72, eo72⟩ := Kd.R_slice HO119.out; subst eo72) | ((with_reducible refine gate_callee (f := 4) rfl ?_); refine goesL_ (some 28) rfl rfl Tryz.func4 (by kernel_rfl) rfl #[.slice Ao72 y117.length co72] rfl (by (try simp only [List.map_toArray, List.map_cons, List.map_nil]); first | done | rfl | (simp only [List.length_drop, List.length_take]; rfl)) ?_; (with_reducible refine (laws_short.calls kj4 _ _ y117 false _ ?side1 ?side2 A8.out).mono ?_); (case side1 => repeat (first | exact (Kd.R_reads' HO119.out).2.2 | (with_reducible refine Kd.C_alloc ?_ _) | (with_reducible refine Kd.C_drewN ?_ _) | (with_reducible refine Kd.C_drew ?_))); (case side2 => exact (Kd.R_reads' HO119.out).2.1); rintro e w' ⟨rfl, ⟨nd, rfl⟩⟩; refine ⟨_, rfl, ?_⟩))
          go_ret
          exact ⟨by first | rfl | (simp [errW_none, errW_some] <;> rfl) | (simp [*, errW_none, errW_some] <;> rfl) | (simp [bne_nil_]; done), by repeat (first | (with_reducible first | exact HB.out | apply below_alloc | apply pw_below_drewN | apply below_drew1) | exact HB.out)⟩

/-- THE ONE PURE STATEMENT of laws_FnMixed: yours. -/
def laws_FnMixed.Pure : Prop := ∀ (a0 : Int) (a1 : ByteArray) (a2 : Int) (a3 : ByteArray), (Lit.int .i64 a0).wf = true → a1.size ≤ 140737488351232 → (Lit.int .i64 a2).wf = true → a3.size ≤ 140737488351232 → ∃ k, laws_FnMixed.f k a0 a1 a2 a3 = some true

end Go.Proofs.YtnbpoplomdocjaaGreatDoor.QX
