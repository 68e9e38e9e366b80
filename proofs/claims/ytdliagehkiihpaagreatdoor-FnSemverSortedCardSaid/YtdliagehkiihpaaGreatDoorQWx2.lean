-- Written by a working copy of the kit's print program, turned at a few places by wip/tool/mkprint.py. Lean checks it.
import Derived.Test.YtdliagehkiihpaaGreatDoorQWx0
namespace Go.Proofs.YtdliagehkiihpaaGreatDoor.QW
open Go.RowKit Go.Proofs.YtdliagehkiihpaaGreatDoorW.PrintWords Go.Proofs.YtdliagehkiihpaaGreatDoorW.PrintLast Go.Proofs.YtdliagehkiihpaaGreatDoorW.PrintMore
attribute [local go_sem] max2_int min2_int max_two min_two max_three min_three max_four min_four   -- for this text's walks alone
set_option linter.unusedVariables false
set_option linter.unusedSimpArgs false

/-! ### laws_short: function 7 -/
def laws_short.l0 : Nat → List ByteArray → List ByteArray → Int → Int → Option (Bool)
  | 0, _, _, _, _ => none
  | k + 1, x0, x5, x6, x7 => if x7 < x6 then (if 0 ≤ x7 then (if x7 < (x5.length : Int) then (if ((rdOf ByteArray.empty x5 x7).size : Int) > 1500 then (some false) else (laws_short.l0 k x0 x5 x6 (wrap64 (x7 + 1)))) else (none)) else (none)) else (some (decide ((x0.length : Int) ≤ 150)))
def laws_short.f (k : Nat) (l0 : List ByteArray) : Option (Bool) := laws_short.l0 k l0 l0 (l0.length : Int) 0
theorem laws_short.mono_l : ∀ k, (∀ y0 y1 y2 y3, LeO (laws_short.l0 k y0 y1 y2 y3) (laws_short.l0 (k + 1) y0 y1 y2 y3))
  | 0 => fun _ _ _ _ r h => by simp [laws_short.l0] at h
  | k + 1 => by
    have ih0 := laws_short.mono_l k
    · intro y0 y1 y2 y3
      unfold laws_short.l0
      repeat' first
      | (with_reducible exact ih0 _ _ _ _)
      | (with_reducible exact LeO.refl _)
      | (with_reducible exact LeO.none _)
      | (with_reducible refine LeO.ite ?_ ?_)
      | (with_reducible refine LeO.bind ?_ (fun _ => ?_))
      | exact ih0 _ _ _ _
      | exact LeO.none _
      | refine LeO.ite ?_ ?_
      | refine LeO.bind ?_ (fun _ => ?_)
theorem laws_short.mono : ∀ a0 k, LeO (laws_short.f k a0) (laws_short.f (k + 1) a0) := by
  intro a0 k
  have ih0 := laws_short.mono_l k
  unfold laws_short.f
  repeat' first
      | (with_reducible exact ih0 _ _ _ _)
      | (with_reducible exact LeO.refl _)
      | (with_reducible exact LeO.none _)
      | (with_reducible refine LeO.ite ?_ ?_)
      | (with_reducible refine LeO.bind ?_ (fun _ => ?_))
      | exact ih0 _ _ _ _
      | exact LeO.none _
      | refine LeO.ite ?_ ?_
      | refine LeO.bind ?_ (fun _ => ?_)
set_option maxHeartbeats 8000000 in
set_option maxRecDepth 100000 in
theorem laws_short.calls (k : Nat) (A0 : Option Addr) (c0 : Nat) (l0 : List ByteArray) (r : Bool) (w : World) (hr0 : Kd.C Kd.string w A0 l0.length l0) (hc0 : l0.length ≤ c0) (h : laws_short.f k l0 = some r) :
    Calls Tryz.prog 7 #[.slice A0 l0.length c0] w fun e w' => e = .returned (.bool r) ∧ Drawn0 w w' := by
  have HR0 := Aside0.mk hr0
  have HC0 := Aside0.mk hc0
  clear hr0 hc0
  have H : (laws_short.l0 k l0 l0 (l0.length : Int) 0) = some r := h
  clear h
  have H' := Aside0.mk H
  clear H
  go_enter Tryz.func7, Tryz.ntmps7
  go_wp2
  go_loopg [7] k (fun kq v7 w' => ∃ (x7_1 : Int), v7 = .int .i64 x7_1 ∧ Aside0 (laws_short.l0 kq l0 l0 (l0.length : Int) x7_1 = some r) ∧ Aside0 (kq ≤ k) ∧ Drawn0 w w')
  case atStart => exact ⟨(0), (by first | rfl | (simp; done) | (simp [*]; done) | (simp [bne_nil_]; done)), H', ⟨Nat.le_refl _⟩, by repeat (first | exact Drawn0.refl _ | apply Drawn0.step)⟩
  case round =>
    clear H'
    obtain ⟨x7_1, rfl, HA, HK1, ⟨m1, rfl⟩⟩ := hrel
    cases gk with
    | zero => exact absurd HA.out (by simp [laws_short.l0])
    | succ k1 =>
      have H := HA.out
      clear HA
      simp only [laws_short.l0] at H
      by_cases c2 : x7_1 < (l0.length : Int)
      · rw [if_pos c2] at H
        have c2b0 : decide (x7_1 < (l0.length : Int)) = true := decide_eq_true c2
        clear c2
        by_cases c3 : 0 ≤ x7_1
        · rw [if_pos c3] at H
          have c3b0 : decide (0 ≤ x7_1) = true := decide_eq_true c3
          clear c3
          by_cases c4 : x7_1 < (l0.length : Int)
          · rw [if_pos c4] at H
            have c4b0 : decide (x7_1 < (l0.length : Int)) = true := decide_eq_true c4
            clear c4
            by_cases c5 : ((rdOf ByteArray.empty l0 x7_1).size : Int) > 1500
            · rw [if_pos c5] at H
              have c5b0 : decide (1500 < ((rdOf ByteArray.empty l0 x7_1).size : Int)) = true := decide_eq_true c5
              have c5b1 : decide (1500 < (rdOf ByteArray.empty l0 x7_1).size) = true := decide_eq_true (by omega)
              clear c5
              obtain rfl := Option.some.inj H
              have p101 : 0 ≤ (x7_1 : Int) := of_decide_eq_true (by first | (with_reducible assumption) | assumption)
              have q101 : x7_1 < (l0.length : Int) := of_decide_eq_true (by first | (with_reducible assumption) | assumption)
              obtain ⟨ad101, e101, hx101_0⟩ := Kd.at_string HR0.out x7_1 p101 q101
              cases e101
              replace p101 := eq_true p101
              replace q101 := eq_true q101
              go_wp2
              go_ret
              exact ⟨by first | rfl | (simp; done) | (simp [*]; done) | (simp [bne_nil_]; done), by repeat (first | exact Drawn0.refl _ | apply Drawn0.step)⟩
            · rw [if_neg c5] at H
              have c5b0 : decide (1500 < ((rdOf ByteArray.empty l0 x7_1).size : Int)) = false := decide_eq_false c5
              have c5b1 : decide (1500 < (rdOf ByteArray.empty l0 x7_1).size) = false := decide_eq_false (by omega)
              clear c5
              have H' := Aside0.mk H
              clear H
              have p101 : 0 ≤ (x7_1 : Int) := of_decide_eq_true (by first | (with_reducible assumption) | assumption)
              have q101 : x7_1 < (l0.length : Int) := of_decide_eq_true (by first | (with_reducible assumption) | assumption)
              obtain ⟨ad101, e101, hx101_0⟩ := Kd.at_string HR0.out x7_1 p101 q101
              cases e101
              replace p101 := eq_true p101
              replace q101 := eq_true q101
              go_wp2
              go_roundg k1
              case measure => have := HK1.out; omega
              case rel => exact ⟨(wrap64 (x7_1 + 1)), (by first | rfl | (simp; done) | (simp [*]; done) | (simp [bne_nil_]; done)), H', ⟨by have := HK1.out; omega⟩, by repeat (first | exact Drawn0.refl _ | apply Drawn0.step)⟩
          · rw [if_neg c4] at H
            exact absurd H (by simp)
        · rw [if_neg c3] at H
          exact absurd H (by simp)
      · rw [if_neg c2] at H
        have c2b0 : decide (x7_1 < (l0.length : Int)) = false := decide_eq_false c2
        clear c2
        obtain rfl := Option.some.inj H
        go_wp2
        go_ret
        exact ⟨by first | rfl | (simp; done) | (simp [*]; done) | (simp [bne_nil_]; done), by repeat (first | exact Drawn0.refl _ | apply Drawn0.step)⟩

-- LEFT OUT: function 76

-- GIVEN: function 56 (utf8_ValidString)

/-! ### spec_LikeKnown: function 33 -/
def spec_LikeKnown.f (a0 : ByteArray) : Option (Bool) := (Giv.utf8_ValidString.f a0).bind fun t102 => (some t102)
set_option maxHeartbeats 8000000 in
set_option maxRecDepth 100000 in
theorem spec_LikeKnown.calls (a0 : ByteArray) (r : Bool) (w : World) (h : spec_LikeKnown.f a0 = some r) (hL : Giv.LaidU w) :
    Calls Tryz.prog 33 #[.string a0] w fun e w' => e = .returned (.bool r) ∧ Below w.heap.size w w' := by
  have HLd := Aside0.mk hL
  clear hL
  have HB := Aside0.mk (Below.refl w.heap.size w)
  have H : ((Giv.utf8_ValidString.f a0).bind fun t102 => (some t102)) = some r := h
  clear h
  replace H := Option.bind_eq_some_iff.mp H
  obtain ⟨t102, A20, H⟩ := H
  replace H : (some t102) = some r := H
  have A2 := Aside0.mk A20
  clear A20
  obtain rfl := Option.some.inj H
  go_enter Tryz.func33, Tryz.ntmps33
  go_wp2_with (first | ((with_reducible refine gate_callee (f := 56) rfl ?_); refine goesL_ (some 4) rfl rfl Tryz.func56 (by kernel_rfl) rfl #[.string a0] rfl (by (try simp only [List.map_toArray, List.map_cons, List.map_nil]); first | done | rfl | (simp only [List.length_drop, List.length_take]; rfl)) ?_; (with_reducible refine (Giv.utf8_ValidString.calls a0 t102 _ A2.out (HLd.out.below (by repeat (first | (with_reducible first | exact HB.out | apply below_alloc | apply pw_below_drewN | apply below_drew1) | exact HB.out)))).mono ?_); rintro e w3 ⟨rfl, hb⟩; refine ⟨_, rfl, ?_⟩; have n0_ := Aside0.mk (below_step (by repeat (first | (with_reducible first | exact HB.out | apply below_alloc | apply pw_below_drewN | apply below_drew1) | exact HB.out)) hb); clear HB; have HB := n0_; clear n0_; (try clear hb); (try clear hb2); (try clear hk); (try clear hi)))
  go_ret
  exact ⟨by first | rfl | (simp [errW_none, errW_some] <;> rfl) | (simp [*, errW_none, errW_some] <;> rfl) | (simp [bne_nil_]; done), by repeat (first | (with_reducible first | exact HB.out | apply below_alloc | apply pw_below_drewN | apply below_drew1) | exact HB.out)⟩

/-! ### spec_Ascii: function 34 -/
def spec_Ascii.l0 : Nat → ByteArray → Int → Option (Bool)
  | 0, _, _ => none
  | k + 1, x0, x3 => if x3 < (x0.size : Int) then (if 0 ≤ x3 then (if (bt x0 x3) > 127 then (some false) else (spec_Ascii.l0 k x0 (wrap64 (x3 + 1)))) else (none)) else (some true)
def spec_Ascii.f (k : Nat) (a0 : ByteArray) : Option (Bool) := spec_Ascii.l0 k a0 0
theorem spec_Ascii.mono_l : ∀ k, (∀ y0 y1, LeO (spec_Ascii.l0 k y0 y1) (spec_Ascii.l0 (k + 1) y0 y1))
  | 0 => fun _ _ r h => by simp [spec_Ascii.l0] at h
  | k + 1 => by
    have ih0 := spec_Ascii.mono_l k
    · intro y0 y1
      unfold spec_Ascii.l0
      repeat' first
      | (with_reducible exact ih0 _ _)
      | (with_reducible exact LeO.refl _)
      | (with_reducible exact LeO.none _)
      | (with_reducible refine LeO.ite ?_ ?_)
      | (with_reducible refine LeO.bind ?_ (fun _ => ?_))
      | exact ih0 _ _
      | exact LeO.none _
      | refine LeO.ite ?_ ?_
      | refine LeO.bind ?_ (fun _ => ?_)
theorem spec_Ascii.mono : ∀ a0 k, LeO (spec_Ascii.f k a0) (spec_Ascii.f (k + 1) a0) := by
  intro a0 k
  have ih0 := spec_Ascii.mono_l k
  unfold spec_Ascii.f
  repeat' first
      | (with_reducible exact ih0 _ _)
      | (with_reducible exact LeO.refl _)
      | (with_reducible exact LeO.none _)
      | (with_reducible refine LeO.ite ?_ ?_)
      | (with_reducible refine LeO.bind ?_ (fun _ => ?_))
      | exact ih0 _ _
      | exact LeO.none _
      | refine LeO.ite ?_ ?_
      | refine LeO.bind ?_ (fun _ => ?_)
set_option maxHeartbeats 8000000 in
set_option maxRecDepth 100000 in
theorem spec_Ascii.calls (k : Nat) (a0 : ByteArray) (r : Bool) (w : World) (h : spec_Ascii.f k a0 = some r) :
    Calls Tryz.prog 34 #[.string a0] w fun e w' => e = .returned (.bool r) ∧ Drawn0 w w' := by
  have H : (spec_Ascii.l0 k a0 0) = some r := h
  clear h
  have H' := Aside0.mk H
  clear H
  go_enter Tryz.func34, Tryz.ntmps34
  go_wp2
  go_loopg [3] k (fun kq v3 w' => ∃ (x3_1 : Int), v3 = .int .i64 x3_1 ∧ Aside0 (spec_Ascii.l0 kq a0 x3_1 = some r) ∧ Aside0 (kq ≤ k) ∧ Drawn0 w w')
  case atStart => exact ⟨(0), (by first | rfl | (simp; done) | (simp [*]; done) | (simp [bne_nil_]; done)), H', ⟨Nat.le_refl _⟩, by repeat (first | exact Drawn0.refl _ | apply Drawn0.step)⟩
  case round =>
    clear H'
    obtain ⟨x3_1, rfl, HA, HK1, ⟨m1, rfl⟩⟩ := hrel
    cases gk with
    | zero => exact absurd HA.out (by simp [spec_Ascii.l0])
    | succ k1 =>
      have H := HA.out
      clear HA
      simp only [spec_Ascii.l0] at H
      by_cases c2 : x3_1 < (a0.size : Int)
      · rw [if_pos c2] at H
        have c2b0 : decide (x3_1 < (a0.size : Int)) = true := decide_eq_true c2
        clear c2
        by_cases c3 : 0 ≤ x3_1
        · rw [if_pos c3] at H
          have c3b0 : decide (0 ≤ x3_1) = true := decide_eq_true c3
          clear c3
          by_cases c5 : (bt a0 x3_1) > 127
          · rw [if_pos c5] at H
            have c5b0 : decide (127 < (bt a0 x3_1)) = true := decide_eq_true c5
            clear c5
            obtain rfl := Option.some.inj H
            have p4 : 0 ≤ (x3_1 : Int) := of_decide_eq_true (by first | (with_reducible assumption) | assumption)
            have q4 : x3_1 < (a0.size : Int) := of_decide_eq_true (by first | (with_reducible assumption) | assumption)
            have hx4 := bt_at a0 x3_1
            replace p4 := eq_true p4
            replace q4 := eq_true q4
            go_wp2
            go_ret
            exact ⟨by first | rfl | (simp; done) | (simp [*]; done) | (simp [bne_nil_]; done), by repeat (first | exact Drawn0.refl _ | apply Drawn0.step)⟩
          · rw [if_neg c5] at H
            have c5b0 : decide (127 < (bt a0 x3_1)) = false := decide_eq_false c5
            clear c5
            have H' := Aside0.mk H
            clear H
            have p4 : 0 ≤ (x3_1 : Int) := of_decide_eq_true (by first | (with_reducible assumption) | assumption)
            have q4 : x3_1 < (a0.size : Int) := of_decide_eq_true (by first | (with_reducible assumption) | assumption)
            have hx4 := bt_at a0 x3_1
            replace p4 := eq_true p4
            replace q4 := eq_true q4
            go_wp2
            go_roundg k1
            case measure => have := HK1.out; omega
            case rel => exact ⟨(wrap64 (x3_1 + 1)), (by first | rfl | (simp; done) | (simp [*]; done) | (simp [bne_nil_]; done)), H', ⟨by have := HK1.out; omega⟩, by repeat (first | exact Drawn0.refl _ | apply Drawn0.step)⟩
        · rw [if_neg c3] at H
          exact absurd H (by simp)
      · rw [if_neg c2] at H
        have c2b0 : decide (x3_1 < (a0.size : Int)) = false := decide_eq_false c2
        clear c2
        obtain rfl := Option.some.inj H
        go_wp2
        go_ret
        exact ⟨by first | rfl | (simp; done) | (simp [*]; done) | (simp [bne_nil_]; done), by repeat (first | exact Drawn0.refl _ | apply Drawn0.step)⟩

/-! ### spec_isDigit: function 38 -/
def spec_isDigit.f (a0 : Int) : Option (Bool) := if a0 ≥ 48 then (some (decide (a0 ≤ 57))) else (some false)
set_option maxHeartbeats 8000000 in
set_option maxRecDepth 100000 in
theorem spec_isDigit.calls (a0 : Int) (r : Bool) (w : World) (h : spec_isDigit.f a0 = some r) :
    Calls Tryz.prog 38 #[.int .u8 a0] w fun e w' => e = .returned (.bool r) ∧ Drawn0 w w' := by
  have H : (if a0 ≥ 48 then (some (decide (a0 ≤ 57))) else (some false)) = some r := h
  clear h
  by_cases c2 : a0 ≥ 48
  · rw [if_pos c2] at H
    have c2b0 : decide (48 ≤ a0) = true := decide_eq_true c2
    clear c2
    obtain rfl := Option.some.inj H
    go_enter Tryz.func38, Tryz.ntmps38
    go_wp2
    go_ret
    exact ⟨by first | rfl | (simp; done) | (simp [*]; done) | (simp [bne_nil_]; done), by repeat (first | exact Drawn0.refl _ | apply Drawn0.step)⟩
  · rw [if_neg c2] at H
    have c2b0 : decide (48 ≤ a0) = false := decide_eq_false c2
    clear c2
    obtain rfl := Option.some.inj H
    go_enter Tryz.func38, Tryz.ntmps38
    go_wp2
    go_ret
    exact ⟨by first | rfl | (simp; done) | (simp [*]; done) | (simp [bne_nil_]; done), by repeat (first | exact Drawn0.refl _ | apply Drawn0.step)⟩

-- GIVEN: function 39 (spec_cut)

/-! ### spec_isPoint: function 40 -/
def spec_isPoint.f (a0 : Int) : Option (Bool) := some (a0 == 46)
set_option maxHeartbeats 8000000 in
set_option maxRecDepth 100000 in
theorem spec_isPoint.calls (a0 : Int) (r : Bool) (w : World) (h : spec_isPoint.f a0 = some r) :
    Calls Tryz.prog 40 #[.int .u8 a0] w fun e w' => e = .returned (.bool r) ∧ Drawn0 w w' := by
  have H : (some (a0 == 46)) = some r := h
  clear h
  obtain rfl := Option.some.inj H
  go_enter Tryz.func40, Tryz.ntmps40
  go_wp2
  go_ret
  exact ⟨by first | rfl | (simp; done) | (simp [*]; done) | (simp [bne_nil_]; done), by repeat (first | exact Drawn0.refl _ | apply Drawn0.step)⟩

/-! ### spec_intOf: function 41 -/
mutual
def spec_intOf.l0 : Nat → ByteArray → List Int → Int → Option (Bool × ByteArray)
  | 0, _, _, _ => none
  | k + 1, x0, x3, x4 => if x4 < (x0.size : Int) then (if 0 ≤ x4 then (spec_intOf.l1 k x0 x3 x4 (((bt x0 x4) - 48) % 256) 0) else (none)) else (if 0 ≤ (x3.length : Int) then (if ((x3.length : Int) : Int).toNat ≤ 281474976710656 then (spec_intOf.l2 k x3 (List.replicate ((x3.length : Int) : Int).toNat 0) 0) else (none)) else (none))
def spec_intOf.l1 : Nat → ByteArray → List Int → Int → Int → Int → Option (Bool × ByteArray)
  | 0, _, _, _, _, _ => none
  | k + 1, x0, x3, x4, x5, x6 => if x6 < (x3.length : Int) then (if 0 ≤ x6 then (spec_intOf.l1 k x0 (x3.set (x6 : Int).toNat ((Int.tmod (wrap64 (x5 + (wrap64 (10 * (wrap64 (rd x3 x6)))))) 256) % 256)) x4 (wrap64 (Int.tdiv (wrap64 (x5 + (wrap64 (10 * (wrap64 (rd x3 x6)))))) 256)) (wrap64 (x6 + 1))) else (none)) else (if x5 > 0 then (if x3.length < 140737488355328 then (spec_intOf.l0 k x0 (x3 ++ [(x5) % 256]) (wrap64 (x4 + 1))) else (none)) else (spec_intOf.l0 k x0 x3 (wrap64 (x4 + 1))))
def spec_intOf.l2 : Nat → List Int → List Int → Int → Option (Bool × ByteArray)
  | 0, _, _, _ => none
  | k + 1, x3, x7, x8 => if x8 < (x3.length : Int) then (if 0 ≤ x8 then (if 0 ≤ (wrap64 ((wrap64 ((x3.length : Int) - 1)) - x8)) then (if (wrap64 ((wrap64 ((x3.length : Int) - 1)) - x8)) < (x7.length : Int) then (spec_intOf.l2 k x3 (x7.set ((wrap64 ((wrap64 ((x3.length : Int) - 1)) - x8)) : Int).toNat (rd x3 x8)) (wrap64 (x8 + 1))) else (none)) else (none)) else (none)) else (some (false, strOfNums x7))
end
def spec_intOf.f (k : Nat) (a0 : ByteArray) : Option (Bool × ByteArray) := spec_intOf.l0 k a0 ([] : List Int) 0
theorem spec_intOf.mono_l : ∀ k, (∀ y0 y1 y2, LeO (spec_intOf.l0 k y0 y1 y2) (spec_intOf.l0 (k + 1) y0 y1 y2)) ∧ (∀ y0 y1 y2 y3 y4, LeO (spec_intOf.l1 k y0 y1 y2 y3 y4) (spec_intOf.l1 (k + 1) y0 y1 y2 y3 y4)) ∧ (∀ y0 y1 y2, LeO (spec_intOf.l2 k y0 y1 y2) (spec_intOf.l2 (k + 1) y0 y1 y2))
  | 0 => ⟨fun _ _ _ r h => by simp [spec_intOf.l0] at h, fun _ _ _ _ _ r h => by simp [spec_intOf.l1] at h, fun _ _ _ r h => by simp [spec_intOf.l2] at h⟩
  | k + 1 => by
    obtain ⟨ih0, ih1, ih2⟩ := spec_intOf.mono_l k
    refine ⟨?_, ?_, ?_⟩
    · intro y0 y1 y2
      unfold spec_intOf.l0
      repeat' first
      | (with_reducible exact ih0 _ _ _)
      | (with_reducible exact ih1 _ _ _ _ _)
      | (with_reducible exact ih2 _ _ _)
      | (with_reducible exact LeO.refl _)
      | (with_reducible exact LeO.none _)
      | (with_reducible refine LeO.ite ?_ ?_)
      | (with_reducible refine LeO.bind ?_ (fun _ => ?_))
      | exact ih0 _ _ _
      | exact ih1 _ _ _ _ _
      | exact ih2 _ _ _
      | exact LeO.none _
      | refine LeO.ite ?_ ?_
      | refine LeO.bind ?_ (fun _ => ?_)
    · intro y0 y1 y2 y3 y4
      unfold spec_intOf.l1
      repeat' first
      | (with_reducible exact ih0 _ _ _)
      | (with_reducible exact ih1 _ _ _ _ _)
      | (with_reducible exact ih2 _ _ _)
      | (with_reducible exact LeO.refl _)
      | (with_reducible exact LeO.none _)
      | (with_reducible refine LeO.ite ?_ ?_)
      | (with_reducible refine LeO.bind ?_ (fun _ => ?_))
      | exact ih0 _ _ _
      | exact ih1 _ _ _ _ _
      | exact ih2 _ _ _
      | exact LeO.none _
      | refine LeO.ite ?_ ?_
      | refine LeO.bind ?_ (fun _ => ?_)
    · intro y0 y1 y2
      unfold spec_intOf.l2
      repeat' first
      | (with_reducible exact ih0 _ _ _)
      | (with_reducible exact ih1 _ _ _ _ _)
      | (with_reducible exact ih2 _ _ _)
      | (with_reducible exact LeO.refl _)
      | (with_reducible exact LeO.none _)
      | (with_reducible refine LeO.ite ?_ ?_)
      | (with_reducible refine LeO.bind ?_ (fun _ => ?_))
      | exact ih0 _ _ _
      | exact ih1 _ _ _ _ _
      | exact ih2 _ _ _
      | exact LeO.none _
      | refine LeO.ite ?_ ?_
      | refine LeO.bind ?_ (fun _ => ?_)
theorem spec_intOf.mono : ∀ a0 k, LeO (spec_intOf.f k a0) (spec_intOf.f (k + 1) a0) := by
  intro a0 k
  obtain ⟨ih0, ih1, ih2⟩ := spec_intOf.mono_l k
  unfold spec_intOf.f
  repeat' first
      | (with_reducible exact ih0 _ _ _)
      | (with_reducible exact ih1 _ _ _ _ _)
      | (with_reducible exact ih2 _ _ _)
      | (with_reducible exact LeO.refl _)
      | (with_reducible exact LeO.none _)
      | (with_reducible refine LeO.ite ?_ ?_)
      | (with_reducible refine LeO.bind ?_ (fun _ => ?_))
      | exact ih0 _ _ _
      | exact ih1 _ _ _ _ _
      | exact ih2 _ _ _
      | exact LeO.none _
      | refine LeO.ite ?_ ?_
      | refine LeO.bind ?_ (fun _ => ?_)
set_option maxHeartbeats 8000000 in
set_option maxRecDepth 100000 in
theorem spec_intOf.calls (k : Nat) (a0 : ByteArray) (r1 : Bool) (r2 : ByteArray) (w : World) (h : spec_intOf.f k a0 = some (r1, r2)) :
    Calls Tryz.prog 41 #[.string a0] w fun e w' => e = .returned (.agg #[.bool r1, .string r2]) ∧ Below w.heap.size w w' := by
  have hu64 := Tryz.underlying64
  have HB := Aside0.mk (Below.refl w.heap.size w)
  have H : (spec_intOf.l0 k a0 ([] : List Int) 0) = some (r1, r2) := h
  clear h
  have H' := Aside0.mk H
  clear H
  go_enter Tryz.func41, Tryz.ntmps41
  go_wp2_with (first | ((with_reducible refine gate_dst (N := 2) rfl ?_); refine box_event ?hg (N := 2) ?hd (cs := #[.bool false, .string (⟨#[]⟩ : ByteArray)]) (t := 64) ?hr ?_; (case hd => rfl); (case hg => rfl); (case hr => first | (go_simp; done) | (go_simp; rfl)); intro gb103 hg w2 hbox hb; have n0_ := Aside0.mk (below_step (by repeat (first | (with_reducible first | exact HB.out | apply below_alloc | apply pw_below_drewN | apply below_drew1) | exact HB.out)) hb); have n1_ := Aside0.mk (hbox); have n2_ := Aside0.mk ((by rw [hg]; exact (below_size (by repeat (first | (with_reducible first | exact HB.out | apply below_alloc | apply pw_below_drewN | apply below_drew1) | exact HB.out))) : w.heap.size ≤ gb103)); have n3_ := Aside0.mk ((by rw [hg]; exact (below_size (by repeat (first | (with_reducible first | exact HB.out | apply below_alloc | apply pw_below_drewN | apply below_drew1) | exact HB.out))) : w.heap.size ≤ gb103)); clear HB; have HB := n0_; have BK103 := n1_; have GW103 := n2_; have GE103 := n3_; clear n0_ n1_ n2_ n3_; clear hb hbox hg))
  go_loopg [3, 4] k (fun kq v3 v4 w' => ∃ (x3_1 : List Int) (x4_1 : Int), v4 = .int .i64 x4_1 ∧ Aside0 (spec_intOf.l0 kq a0 x3_1 x4_1 = some (r1, r2)) ∧ Aside0 (kq ≤ k) ∧ Aside0 (Kd.R (Kd.int .u8) 5 w' w.heap.size (fun _ => True) v3 x3_1) ∧ Aside0 (w'.heap[gb103]? = some (.cells #[.bool false, .string (⟨#[]⟩ : ByteArray)] 64 (0, 0))) ∧ Aside0 (Below w.heap.size w w'))
  case atStart => exact ⟨(([] : List Int)), (0), (by first | rfl | (simp; done) | (simp [*]; done) | (simp [bne_nil_]; done)), H', ⟨Nat.le_refl _⟩, ⟨by first | exact Kd.R_nil _ _ _ _ _ | exact Kd.N_nil _ _ _ _ _ | exact Kd.V_nil _ _ _ _ _ | exact Kd.Q_nil _ _ _ _ _ | exact Kd.S_nil _ _ _ _ _⟩, ⟨by (with_reducible repeat (first | refine blk_drewN ?_ _ | refine blk_drew ?_ | refine blk_alloc ?_ _)); exact BK103.out⟩, ⟨by repeat (first | (with_reducible first | exact HB.out | apply below_alloc | apply pw_below_drewN | apply below_drew1 | refine below_set ?_ GE103.out) | exact HB.out)⟩⟩
  case round =>
    clear H'
    try clear p2
    obtain ⟨x3_1, x4_1, rfl, HA, HK1, HO_3, BK103, HB⟩ := hrel
    cases gk with
    | zero => exact absurd HA.out (by simp [spec_intOf.l0])
    | succ k1 =>
      have H := HA.out
      clear HA
      simp only [spec_intOf.l0] at H
      by_cases c3 : x4_1 < (a0.size : Int)
      · rw [if_pos c3] at H
        have c3b0 : decide (x4_1 < (a0.size : Int)) = true := decide_eq_true c3
        clear c3
        by_cases c4 : 0 ≤ x4_1
        · rw [if_pos c4] at H
          have c4b0 : decide (0 ≤ x4_1) = true := decide_eq_true c4
          clear c4
          have H' := Aside0.mk H
          clear H
          have p5 : 0 ≤ (x4_1 : Int) := of_decide_eq_true (by first | (with_reducible assumption) | assumption)
          have q5 : x4_1 < (a0.size : Int) := of_decide_eq_true (by first | (with_reducible assumption) | assumption)
          have hx5 := bt_at a0 x4_1
          replace p5 := eq_true p5
          replace q5 := eq_true q5
          go_wp2
          go_loopg [5, 6] k1 (fun kq v5 v6 w' => ∃ (x3_2 : List Int) (x5_2 : Int) (x6_2 : Int), v5 = .int .i64 x5_2 ∧ v6 = .int .i64 x6_2 ∧ Aside0 (spec_intOf.l1 kq a0 x3_2 x4_1 x5_2 x6_2 = some (r1, r2)) ∧ Aside0 (kq ≤ k1) ∧ Aside0 (Kd.R (Kd.int .u8) 5 w' w.heap.size (fun _ => True) u3 x3_2) ∧ Aside0 (w'.heap[gb103]? = some (.cells #[.bool false, .string (⟨#[]⟩ : ByteArray)] 64 (0, 0))) ∧ Aside0 (Below w.heap.size w w'))
          case atStart => exact ⟨(x3_1), (((bt a0 x4_1) - 48) % 256), (0), (by first | rfl | (simp; done) | (simp [*]; done) | (simp [bne_nil_]; done)), (by first | rfl | (simp; done) | (simp [*]; done) | (simp [bne_nil_]; done)), H', ⟨Nat.le_refl _⟩, ⟨by (with_reducible repeat (first | apply Kd.R_alloc | apply Kd.R_drewN | apply Kd.R_drew)); exact HO_3.out⟩, ⟨by (with_reducible repeat (first | refine blk_drewN ?_ _ | refine blk_drew ?_ | refine blk_alloc ?_ _)); exact BK103.out⟩, ⟨by repeat (first | (with_reducible first | exact HB.out | apply below_alloc | apply pw_below_drewN | apply below_drew1 | refine below_set ?_ GE103.out) | exact HB.out)⟩⟩
          case round =>
            clear H'
            try clear p2
            try clear c3
            try clear c3b0
            try clear c4
            try clear c4b0
            try clear p5
            try clear q5
            try clear hx5
            try clear p2
            try clear p5
            try clear q5
            obtain ⟨x3_2, x5_2, x6_2, rfl, rfl, HA, HK2, HO_3, BK103, HB⟩ := hrel
            cases gk with
            | zero => exact absurd HA.out (by simp [spec_intOf.l1])
            | succ k2 =>
              have H := HA.out
              clear HA
              simp only [spec_intOf.l1] at H
              by_cases c6 : x6_2 < (x3_2.length : Int)
              · rw [if_pos c6] at H
                have c6b0 : decide (x6_2 < (x3_2.length : Int)) = true := decide_eq_true c6
                clear c6
                by_cases c7 : 0 ≤ x6_2
                · rw [if_pos c7] at H
                  have c7b0 : decide (0 ≤ x6_2) = true := decide_eq_true c7
                  clear c7
                  obtain ⟨y105, hy105⟩ : ∃ y_ : List Int, y_ = (x3_2.set (x6_2 : Int).toNat ((Int.tmod (wrap64 (x5_2 + (wrap64 (10 * (wrap64 (rd x3_2 x6_2)))))) 256) % 256)) := ⟨_, rfl⟩
                  replace H : (spec_intOf.l1 k2 a0 y105 x4_1 (wrap64 (Int.tdiv (wrap64 (x5_2 + (wrap64 (10 * (wrap64 (rd x3_2 x6_2)))))) 256)) (wrap64 (x6_2 + 1))) = some (r1, r2) := by first | (rw [hy105]; with_reducible exact H) | (have H2_ := (Option.bind_some _ _).symm.trans H; rw [hy105]; with_reducible exact H2_) | (have H2_ := (Option.bind_some _ _).symm.trans H; with_reducible exact H2_) | with_reducible exact H | (rw [hy105]; exact H) | exact H
                  have Ny105 := Aside0.mk hy105
                  clear hy105
                  have H' := Aside0.mk H
                  clear H
                  obtain ⟨Ao9, co9, eo9⟩ := Kd.R_slice HO_3.out
                  subst eo9
                  have p104 : 0 ≤ (x6_2 : Int) := of_decide_eq_true (by first | (with_reducible assumption) | assumption)
                  have q104 : x6_2 < (x3_2.length : Int) := of_decide_eq_true (by first | (with_reducible assumption) | assumption)
                  obtain ⟨ad104, e104, hx104_0⟩ := Kd.at_int (Kd.R_reads' HO_3.out).2.2 x6_2 p104 q104
                  cases e104
                  replace p104 := eq_true p104
                  replace q104 := eq_true q104
                  have p8 : 0 ≤ (x6_2 : Int) := of_decide_eq_true (by first | (with_reducible assumption) | assumption)
                  have q8 : (x6_2 : Int) < ((x3_2.length : Int) : Int) := of_decide_eq_true (by first | (with_reducible assumption) | assumption)
                  obtain ⟨go8, co8, eo8, gb8, gl8, cl8, HG8⟩ := Kd.R_form HO_3.out (by omega)
                  (first | cases eo8 | (injection eo8 with ea_ en_ ec_; (first | subst ea_ | (injection ea_ with ea_; subst ea_)); subst ec_; clear en_))
                  have GB8 := Aside0.mk gb8
                  have GG8 := Aside0.mk HG8
                  clear gb8 gl8 HG8
                  (first | simp only [add_plain] at hx104_0 | skip)
                  obtain ⟨hx8_0, hf8_0⟩ := Kd.R_celln 0 HO_3.out (x6_2 : Int) p8 q8
                  replace p8 := eq_true p8
                  replace q8 := eq_true q8
                  have HP10 := Kd.R_putg HO_3.out (x6_2 : Int) ((Int.tmod (wrap64 (x5_2 + (wrap64 (10 * (wrap64 (rd x3_2 x6_2)))))) 256) % 256)
                  go_wp2_with (first | ((with_reducible refine gate_store (t := 5) (p := 39) rfl ?_); refine store_event (t := 5) (p := 39) (v := ?vo_w11) (w1 := (wr.setCell ⟨go8, (x6_2 : Int).toNat, none⟩ (.int .u8 ((Int.tmod (wrap64 (x5_2 + (wrap64 (10 * (wrap64 (rd x3_2 x6_2)))))) 256) % 256)))) ?hg ?ho ?hn ?hr ?_; (case ho => rfl); (case hg => rfl); (case hn => rfl); (case hr => first | (go_simp; done) | (go_simp; rfl)); intro w11 hw; have hg : wr.grownBy w11 (some go8) := (by rw [hw]; exact HP10.2); have hp_ : Kd.R (Kd.int .u8) 5 w11 w.heap.size (fun _ => True) (.slice (some ⟨go8, 0, none⟩) x3_2.length co9) y105 := (by rw [hw, Ny105.out]; exact HP10.1); clear HP10; have n0_ := Aside0.mk (hp_); have n1_ := Aside0.mk (blk_grown (g := gb103) (o := .cells #[.bool false, .string (⟨#[]⟩ : ByteArray)] 64 (0, 0)) (by (with_reducible repeat (first | refine blk_drewN ?_ _ | refine blk_drew ?_ | refine blk_alloc ?_ _)); exact BK103.out) hg (Kd.R_ne HO_3.out BK103.out (by decide))); have n2_ := Aside0.mk ((by rw [hw]; exact below_set (HB.out) GB8.out : Below w.heap.size w w11)); clear HO_3; clear BK103; clear HB; have HO_3 := n0_; have BK103 := n1_; have HB := n2_; clear n0_ n1_ n2_; clear hg hw hp_))
                  go_roundg k2
                  case measure => have := HK1.out; have := HK2.out; omega
                  case rel => exact ⟨(y105), (wrap64 (Int.tdiv (wrap64 (x5_2 + (wrap64 (10 * (wrap64 (rd x3_2 x6_2)))))) 256)), (wrap64 (x6_2 + 1)), (by first | rfl | (simp; done) | (simp [*]; done) | (simp [bne_nil_]; done)), (by first | rfl | (simp; done) | (simp [*]; done) | (simp [bne_nil_]; done)), H', ⟨by have := HK1.out; have := HK2.out; omega⟩, ⟨by (with_reducible repeat (first | apply Kd.R_alloc | apply Kd.R_drewN | apply Kd.R_drew)); exact HO_3.out⟩, ⟨by (with_reducible repeat (first | refine blk_drewN ?_ _ | refine blk_drew ?_ | refine blk_alloc ?_ _)); exact BK103.out⟩, ⟨by repeat (first | (with_reducible first | exact HB.out | apply below_alloc | apply pw_below_drewN | apply below_drew1 | refine below_set ?_ GE103.out) | exact HB.out)⟩⟩
                · rw [if_neg c7] at H
                  exact absurd H (by simp)
              · rw [if_neg c6] at H
                have c6b0 : decide (x6_2 < (x3_2.length : Int)) = false := decide_eq_false c6
                clear c6
                by_cases c12 : x5_2 > 0
                · rw [if_pos c12] at H
                  have c12b0 : decide (0 < x5_2) = true := decide_eq_true c12
                  clear c12
                  by_cases c13 : x3_2.length < 140737488355328
                  · rw [if_pos c13] at H
                    have LMc13 := Aside0.mk c13
                    clear c13
                    obtain ⟨y106, hy106⟩ : ∃ y_ : List Int, y_ = (x3_2 ++ [(x5_2) % 256]) := ⟨_, rfl⟩
                    replace H : (spec_intOf.l0 k2 a0 y106 (wrap64 (x4_1 + 1))) = some (r1, r2) := by first | (rw [hy106]; with_reducible exact H) | (have H2_ := (Option.bind_some _ _).symm.trans H; rw [hy106]; with_reducible exact H2_) | (have H2_ := (Option.bind_some _ _).symm.trans H; with_reducible exact H2_) | with_reducible exact H | (rw [hy106]; exact H) | exact H
                    have Ny106 := Aside0.mk hy106
                    clear hy106
                    have H' := Aside0.mk H
                    clear H
                    obtain ⟨Ao14, co14, eo14⟩ := Kd.R_slice HO_3.out
                    subst eo14
                    go_wp2_with (first | ((with_reducible refine gate_builtin (b := .append) (xs := #[.tmp 44, .tmp 47]) rfl ?_); at_builtin; refine Kd.R_append (Kd.int .u8) (w0 := w) w.heap.size rfl (.tmp 44) (.tmp 47) 77 5 (.int .u8 0) 1 rfl Tryz.underlying77 info5 rfl (by decide) (by omega) (.slice Ao14 x3_2.length co14) x3_2 ((x5_2) % 256) [.int .u8 ((x5_2) % 256)] (fun _ => True) (fun _ => False) rfl rfl ?aP (fun _ hk => hk.elim) ?aF ?aO ?aB ?aS ?aL ?_; (case aP => exact rfl); (case aB => exact (by repeat (first | (with_reducible first | exact HB.out | apply below_alloc | apply pw_below_drewN | apply below_drew1 | refine below_set ?_ GE103.out) | exact HB.out))); (case aF => exact (fun _ _ => trivial)); (case aO => exact (by (with_reducible repeat (first | apply Kd.R_alloc | apply Kd.R_drewN | apply Kd.R_drew)); exact HO_3.out)); (case aS => exact (below_size (by repeat (first | (with_reducible first | exact HB.out | apply below_alloc | apply pw_below_drewN | apply below_drew1 | refine below_set ?_ GE103.out) | exact HB.out)))); (case aL => have := LMc13.out; omega); intro v107 w15 ho hb hg hat; rw [← Ny106.out] at ho; have n0_ := Aside0.mk (blk_grown (g := gb103) (o := .cells #[.bool false, .string (⟨#[]⟩ : ByteArray)] 64 (0, 0)) (by (with_reducible repeat (first | refine blk_drewN ?_ _ | refine blk_drew ?_ | refine blk_alloc ?_ _)); exact BK103.out) hg (Kd.R_ne HO_3.out BK103.out (by decide))); have n1_ := Aside0.mk (hb); have n2_ := Aside0.mk (ho); clear BK103; clear HB; clear HO_3; have BK103 := n0_; have HB := n1_; have HO108 := n2_; clear n0_ n1_ n2_; clear ho hb hg hat))
                    go_roundg k2
                    case measure => have := HK1.out; have := HK2.out; omega
                    case rel => exact ⟨(y106), (wrap64 (x4_1 + 1)), (by first | rfl | (simp; done) | (simp [*]; done) | (simp [bne_nil_]; done)), H', ⟨by have := HK1.out; have := HK2.out; omega⟩, ⟨by (with_reducible repeat (first | apply Kd.R_alloc | apply Kd.R_drewN | apply Kd.R_drew)); exact HO108.out⟩, ⟨by (with_reducible repeat (first | refine blk_drewN ?_ _ | refine blk_drew ?_ | refine blk_alloc ?_ _)); exact BK103.out⟩, ⟨by repeat (first | (with_reducible first | exact HB.out | apply below_alloc | apply pw_below_drewN | apply below_drew1 | refine below_set ?_ GE103.out) | exact HB.out)⟩⟩
                  · rw [if_neg c13] at H
                    exact absurd H (by simp)
                · rw [if_neg c12] at H
                  have c12b0 : decide (0 < x5_2) = false := decide_eq_false c12
                  clear c12
                  have H' := Aside0.mk H
                  clear H
                  obtain ⟨Ao16, co16, eo16⟩ := Kd.R_slice HO_3.out
                  subst eo16
                  go_wp2
                  go_roundg k2
                  case measure => have := HK1.out; have := HK2.out; omega
                  case rel => exact ⟨(x3_2), (wrap64 (x4_1 + 1)), (by first | rfl | (simp; done) | (simp [*]; done) | (simp [bne_nil_]; done)), H', ⟨by have := HK1.out; have := HK2.out; omega⟩, ⟨by (with_reducible repeat (first | apply Kd.R_alloc | apply Kd.R_drewN | apply Kd.R_drew)); exact HO_3.out⟩, ⟨by (with_reducible repeat (first | refine blk_drewN ?_ _ | refine blk_drew ?_ | refine blk_alloc ?_ _)); exact BK103.out⟩, ⟨by repeat (first | (with_reducible first | exact HB.out | apply below_alloc | apply pw_below_drewN | apply below_drew1 | refine below_set ?_ GE103.out) | exact HB.out)⟩⟩
        · rw [if_neg c4] at H
          exact absurd H (by simp)
      · rw [if_neg c3] at H
        have c3b0 : decide (x4_1 < (a0.size : Int)) = false := decide_eq_false c3
        clear c3
        by_cases c17 : 0 ≤ (x3_1.length : Int)
        · rw [if_pos c17] at H
          have c17b0 := eq_true c17
          have c17b1 : decide (0 ≤ (x3_1.length : Int)) = true := decide_eq_true c17
          clear c17
          by_cases c18 : ((x3_1.length : Int) : Int).toNat ≤ 281474976710656
          · rw [if_pos c18] at H
            have c18b0 := eq_true c18
            have c18b1 : decide (((x3_1.length : Int) : Int).toNat ≤ 281474976710656) = true := decide_eq_true c18
            clear c18
            obtain ⟨y109, hy109⟩ : ∃ y_ : List Int, y_ = (List.replicate ((x3_1.length : Int) : Int).toNat 0) := ⟨_, rfl⟩
            replace H : (spec_intOf.l2 k1 x3_1 y109 0) = some (r1, r2) := by first | (rw [hy109]; with_reducible exact H) | (have H2_ := (Option.bind_some _ _).symm.trans H; rw [hy109]; with_reducible exact H2_) | (have H2_ := (Option.bind_some _ _).symm.trans H; with_reducible exact H2_) | with_reducible exact H | (rw [hy109]; exact H) | exact H
            have Ny109 := Aside0.mk hy109
            clear hy109
            have H' := Aside0.mk H
            clear H
            obtain ⟨Ao19, co19, eo19⟩ := Kd.R_slice HO_3.out
            subst eo19
            go_wp2_with (first | ((with_reducible refine gate_dst (N := 51) rfl ?_); refine Kd.R_make (Kd.int .u8) _ 5 rfl (N := 51) rfl 77 _ _ rfl (x3_1.length : Int) rfl rfl Tryz.underlying77 (.int .u8 0) 1 info5 rfl (by decide) (by omega) 0 (ok := fun _ => True) (okp := fun _ => True) rfl (fun _ hk => hk) trivial (of_decide_eq_true (by first | (with_reducible assumption) | assumption)) (Nat.le_trans (Nat.mul_le_mul_right _ (of_decide_eq_true (by first | (with_reducible assumption) | assumption) : (x3_1.length : Int).toNat ≤ 281474976710656)) (by omega)) (Below.refl _ _) (Nat.le_refl _) ?_; intro v110 w20 ho21 hb hg_ hnew_; clear hg_ hnew_; (first | rw [← Ny109.out] at ho21 | (simp only [Int.reduceToNat] at ho21; rw [← Ny109.out] at ho21)); have n0_ := Aside0.mk (Kd.R_elder' (by (with_reducible repeat (first | apply Kd.R_alloc | apply Kd.R_drewN | apply Kd.R_drew)); exact HO_3.out) (Kd.R_base ho21) hb); have n1_ := Aside0.mk (Kd.R_lower (Kd.R_new' ho21 (Kd.R_lt (by (with_reducible repeat (first | apply Kd.R_alloc | apply Kd.R_drewN | apply Kd.R_drew)); exact HO_3.out))) (below_size (by repeat (first | (with_reducible first | exact HB.out | apply below_alloc | apply pw_below_drewN | apply below_drew1 | refine below_set ?_ GE103.out) | exact HB.out)))); have n2_ := Aside0.mk (blk_below (g := gb103) (o := .cells #[.bool false, .string (⟨#[]⟩ : ByteArray)] 64 (0, 0)) (by (with_reducible repeat (first | refine blk_drewN ?_ _ | refine blk_drew ?_ | refine blk_alloc ?_ _)); exact BK103.out) hb); have n3_ := Aside0.mk (below_step (by repeat (first | (with_reducible first | exact HB.out | apply below_alloc | apply pw_below_drewN | apply below_drew1 | refine below_set ?_ GE103.out) | exact HB.out)) hb); clear HO_3; clear BK103; clear HB; have HO_3 := n0_; have HO111 := n1_; have BK103 := n2_; have HB := n3_; clear n0_ n1_ n2_ n3_; clear hb ho21))
            go_loopg [8] k1 (fun kq v8 w' => ∃ (x7_2 : List Int) (x8_2 : Int), v8 = .int .i64 x8_2 ∧ Aside0 (spec_intOf.l2 kq x3_1 x7_2 x8_2 = some (r1, r2)) ∧ Aside0 (kq ≤ k1) ∧ Aside0 (Kd.R (Kd.int .u8) 5 w' w.heap.size (fun k_ => some k_ ≠ (v110 : Value).ownBlock) (.slice Ao19 x3_1.length co19) x3_1) ∧ Aside0 (Kd.R (Kd.int .u8) 5 w' w.heap.size (fun k_ => some k_ ≠ ((.slice Ao19 x3_1.length co19) : Value).ownBlock) v110 x7_2) ∧ Aside0 (w'.heap[gb103]? = some (.cells #[.bool false, .string (⟨#[]⟩ : ByteArray)] 64 (0, 0))) ∧ Aside0 (Below w.heap.size w w'))
            case atStart => exact ⟨(y109), (0), (by first | rfl | (simp; done) | (simp [*]; done) | (simp [bne_nil_]; done)), H', ⟨Nat.le_refl _⟩, ⟨by (with_reducible repeat (first | apply Kd.R_alloc | apply Kd.R_drewN | apply Kd.R_drew)); exact Kd.R_mono HO_3.out (fun _ hk => hk.2)⟩, ⟨by (with_reducible repeat (first | apply Kd.R_alloc | apply Kd.R_drewN | apply Kd.R_drew)); exact Kd.R_mono HO111.out (fun _ hk => hk.2)⟩, ⟨by (with_reducible repeat (first | refine blk_drewN ?_ _ | refine blk_drew ?_ | refine blk_alloc ?_ _)); exact BK103.out⟩, ⟨by repeat (first | (with_reducible first | exact HB.out | apply below_alloc | apply pw_below_drewN | apply below_drew1 | refine below_set ?_ GE103.out) | exact HB.out)⟩⟩
            case round =>
              clear H'
              try clear c1
              try clear p1
              try clear q1
              try clear hx1
              try clear p2
              try clear c3
              try clear c3b0
              try clear c4
              try clear c4b0
              try clear p5
              try clear q5
              try clear hx5
              try clear c6
              try clear c6b0
              try clear p6
              try clear c7
              try clear c7b0
              try clear p8
              try clear q8
              try clear hx8
              try clear hf8
              try clear p10
              try clear q10
              try clear hx10
              try clear c12
              try clear c12b0
              try clear c13
              try clear c17
              try clear c17b0
              try clear c17b1
              try clear c18
              try clear c18b0
              try clear c18b1
              try clear hx104_0
              try clear hx8_0
              try clear p104
              try clear p2
              try clear p5
              try clear p8
              try clear q104
              try clear q5
              try clear q8
              obtain ⟨x7_2, x8_2, rfl, HA, HK2, HO_3, HO_7, BK103, HB⟩ := hrel
              cases gk with
              | zero => exact absurd HA.out (by simp [spec_intOf.l2])
              | succ k2 =>
                have H := HA.out
                clear HA
                simp only [spec_intOf.l2] at H
                by_cases c22 : x8_2 < (x3_1.length : Int)
                · rw [if_pos c22] at H
                  have c22b0 : decide (x8_2 < (x3_1.length : Int)) = true := decide_eq_true c22
                  clear c22
                  by_cases c23 : 0 ≤ x8_2
                  · rw [if_pos c23] at H
                    have c23b0 : decide (0 ≤ x8_2) = true := decide_eq_true c23
                    clear c23
                    obtain ⟨ji24, hji24⟩ : ∃ j_ : Int, (wrap64 ((wrap64 ((x3_1.length : Int) - 1)) - x8_2)) = j_ := ⟨_, rfl⟩
                    replace H : (if 0 ≤ (ji24) then (if (ji24) < (x7_2.length : Int) then (spec_intOf.l2 k2 x3_1 (x7_2.set ((ji24) : Int).toNat (rd x3_1 x8_2)) (wrap64 (x8_2 + 1))) else (none)) else (none)) = some (r1, r2) := by first | (rw [hji24] at H; exact H) | (simp only [hji24] at H ⊢; exact H)
                    have hji24w : (IntKind.i64.wrap ((wrap64 ((x3_1.length : Int) - 1)) - x8_2)) = ji24 := (i64_w _).trans hji24
                    by_cases c25 : 0 ≤ (ji24)
                    · rw [if_pos c25] at H
                      have c25b0 : decide (0 ≤ (ji24)) = true := decide_eq_true c25
                      clear c25
                      by_cases c26 : (ji24) < (x7_2.length : Int)
                      · rw [if_pos c26] at H
                        have c26b0 : decide ((ji24) < (x7_2.length : Int)) = true := decide_eq_true c26
                        clear c26
                        obtain ⟨y113, hy113⟩ : ∃ y_ : List Int, y_ = (x7_2.set ((ji24) : Int).toNat (rd x3_1 x8_2)) := ⟨_, rfl⟩
                        replace H : (spec_intOf.l2 k2 x3_1 y113 (wrap64 (x8_2 + 1))) = some (r1, r2) := by first | (rw [hy113]; with_reducible exact H) | (have H2_ := (Option.bind_some _ _).symm.trans H; rw [hy113]; with_reducible exact H2_) | (have H2_ := (Option.bind_some _ _).symm.trans H; with_reducible exact H2_) | with_reducible exact H | (rw [hy113]; exact H) | exact H
                        have Ny113 := Aside0.mk hy113
                        clear hy113
                        have H' := Aside0.mk H
                        clear H
                        have p112 : 0 ≤ (x8_2 : Int) := of_decide_eq_true (by first | (with_reducible assumption) | assumption)
                        have q112 : x8_2 < (x3_1.length : Int) := of_decide_eq_true (by first | (with_reducible assumption) | assumption)
                        obtain ⟨ad112, e112, hx112_0⟩ := Kd.at_int (Kd.R_reads' HO_3.out).2.2 x8_2 p112 q112
                        cases e112
                        replace p112 := eq_true p112
                        replace q112 := eq_true q112
                        have p27 : 0 ≤ ((ji24) : Int) := of_decide_eq_true (by first | (with_reducible assumption) | assumption)
                        have q27 : ((ji24) : Int) < ((x7_2.length : Int) : Int) := of_decide_eq_true (by first | (with_reducible assumption) | assumption)
                        obtain ⟨go27, co27, eo27, gb27, gl27, cl27, HG27⟩ := Kd.R_form HO_7.out (by omega)
                        (first | cases eo27 | (injection eo27 with ea_ en_ ec_; (first | subst ea_ | (injection ea_ with ea_; subst ea_)); subst ec_; clear en_))
                        have GB27 := Aside0.mk gb27
                        have GG27 := Aside0.mk HG27
                        clear gb27 gl27 HG27
                        obtain ⟨hx27_0, hf27_0⟩ := Kd.R_celln 0 HO_7.out ((ji24) : Int) p27 q27
                        replace p27 := eq_true p27
                        replace q27 := eq_true q27
                        have HP28 := Kd.R_putg HO_7.out ((ji24) : Int) (rd x3_1 x8_2)
                        go_wp2_with (first | ((with_reducible refine gate_store (t := 5) (p := 68) rfl ?_); refine store_event (t := 5) (p := 68) (v := ?vo_w29) (w1 := (wr.setCell ⟨go27, ((ji24) : Int).toNat, none⟩ (.int .u8 (rd x3_1 x8_2)))) ?hg ?ho ?hn ?hr ?_; (case ho => rfl); (case hg => rfl); (case hn => rfl); (case hr => first | (go_simp; done) | (go_simp; rfl)); intro w29 hw; have hg : wr.grownBy w29 (some go27) := (by rw [hw]; exact HP28.2); have hp_ : Kd.R (Kd.int .u8) 5 w29 w.heap.size (fun k_ => some k_ ≠ (.slice (some ad112) x3_1.length co19 : Value).ownBlock) (.slice (some ⟨go27, 0, none⟩) x7_2.length co27) y113 := (by rw [hw, Ny113.out]; exact HP28.1); clear HP28; have n0_ := Aside0.mk (Kd.R_after (v := (.slice (some ⟨go27, 0, none⟩) x7_2.length co27)) (v1 := (.slice (some ⟨go27, 0, none⟩) x7_2.length co27)) (ok := (fun _ => True)) (by (with_reducible repeat (first | apply Kd.R_alloc | apply Kd.R_drewN | apply Kd.R_drew)); exact Kd.R_mono HO_3.out (fun _ hk => ⟨trivial, hk⟩)) hg (.inl rfl)); have n1_ := Aside0.mk (hp_); have n2_ := Aside0.mk (blk_grown (g := gb103) (o := .cells #[.bool false, .string (⟨#[]⟩ : ByteArray)] 64 (0, 0)) (by (with_reducible repeat (first | refine blk_drewN ?_ _ | refine blk_drew ?_ | refine blk_alloc ?_ _)); exact BK103.out) hg (Kd.R_ne HO_7.out BK103.out (by decide))); have n3_ := Aside0.mk ((by rw [hw]; exact below_set (HB.out) GB27.out : Below w.heap.size w w29)); clear HO_3; clear HO_7; clear BK103; clear HB; have HO_3 := n0_; have HO_7 := n1_; have BK103 := n2_; have HB := n3_; clear n0_ n1_ n2_ n3_; clear hg hw hp_))
                        go_roundg k2
                        case measure => have := HK1.out; have := HK2.out; omega
                        case rel => exact ⟨(y113), (wrap64 (x8_2 + 1)), (by first | rfl | (simp; done) | (simp [*]; done) | (simp [bne_nil_]; done)), H', ⟨by have := HK1.out; have := HK2.out; omega⟩, ⟨by (with_reducible repeat (first | apply Kd.R_alloc | apply Kd.R_drewN | apply Kd.R_drew)); exact Kd.R_mono HO_3.out (fun _ hk => hk.2)⟩, ⟨by (with_reducible repeat (first | apply Kd.R_alloc | apply Kd.R_drewN | apply Kd.R_drew)); exact HO_7.out⟩, ⟨by (with_reducible repeat (first | refine blk_drewN ?_ _ | refine blk_drew ?_ | refine blk_alloc ?_ _)); exact BK103.out⟩, ⟨by repeat (first | (with_reducible first | exact HB.out | apply below_alloc | apply pw_below_drewN | apply below_drew1 | refine below_set ?_ GE103.out) | exact HB.out)⟩⟩
                      · rw [if_neg c26] at H
                        exact absurd H (by simp)
                    · rw [if_neg c25] at H
                      exact absurd H (by simp)
                  · rw [if_neg c23] at H
                    exact absurd H (by simp)
                · rw [if_neg c22] at H
                  have c22b0 : decide (x8_2 < (x3_1.length : Int)) = false := decide_eq_false c22
                  clear c22
                  simp only [Option.some.injEq, Prod.mk.injEq] at H
                  obtain ⟨rfl, rfl⟩ := H
                  have hcv30 := own_string (P := Tryz.prog) Tryz.underlying77 Tryz.underlying5 Tryz.underlying9 (Kd.own_of_R HO_7.out)
                  have hcz31_0 : wr.cell? ⟨gb103, 0, none⟩ = some (.bool false) := (blk_cell BK103.out 0).trans rfl
                  have hcz31_1 : wr.cell? ⟨gb103, 1, none⟩ = some (.string (⟨#[]⟩ : ByteArray)) := (blk_cell BK103.out 1).trans rfl
                  have hfz31_0 := blk_frozen BK103.out 0
                  have hfz31_1 := blk_frozen BK103.out 1
                  go_wp2
                  refine bodyPost_ret (results_cell_row rfl _ _ gb103 64 #[.bool false, .string (strOfNums x7_2)] (0, 0) _ rfl (by (with_reducible repeat (first | refine blk_drewN ?_ _ | refine blk_drew ?_ | refine blk_alloc ?_ _)); refine blk_put (cs := #[.bool false, .string (⟨#[]⟩ : ByteArray)]) ?_ 1 _ rfl; (with_reducible repeat (first | refine blk_drewN ?_ _ | refine blk_drew ?_ | refine blk_alloc ?_ _)); refine blk_put (cs := #[.bool false, .string (⟨#[]⟩ : ByteArray)]) ?_ 0 _ rfl; (with_reducible repeat (first | refine blk_drewN ?_ _ | refine blk_drew ?_ | refine blk_alloc ?_ _)); exact BK103.out) Tryz.underlying64 rfl (by kernel_rfl)) rfl ?_
                  exact ⟨by first | rfl | (simp [errW_none, errW_some] <;> rfl) | (simp [*, errW_none, errW_some] <;> rfl) | (simp [bne_nil_]; done), by repeat (first | (with_reducible first | exact HB.out | apply below_alloc | apply pw_below_drewN | apply below_drew1 | refine below_set ?_ GE103.out) | exact HB.out)⟩
          · rw [if_neg c18] at H
            exact absurd H (by simp)
        · rw [if_neg c17] at H
          exact absurd H (by simp)

/-! ### spec_LikeParse: function 19 -/
mutual
def spec_LikeParse.j0 : Nat → ByteArray → Bool → Bool → ByteArray → ByteArray → Option (Bool × (List (S64)) × ByteArray × ByteArray)
  | 0, _, _, _, _, _ => none
  | k + 1, x0, x15, x116000, x116002, x116003 => if x15 = true then (if 1 ≤ (x0.size : Int) then (spec_LikeParse.j1 k (x0.extract 1 x0.size) true x116002 x116003) else (none)) else (spec_LikeParse.j1 k x0 x116000 x116002 x116003)
def spec_LikeParse.j1 : Nat → ByteArray → Bool → ByteArray → ByteArray → Option (Bool × (List (S64)) × ByteArray × ByteArray)
  | 0, _, _, _, _ => none
  | k + 1, x0, x116000, x116002, x116003 => spec_LikeParse.l0 k x0 0 x116000 x116002 x116003
def spec_LikeParse.j3 : Nat → ByteArray → Int → Bool → ByteArray → ByteArray → Option (Bool × (List (S64)) × ByteArray × ByteArray)
  | 0, _, _, _, _, _ => none
  | k + 1, x0, x4, x116000, x116002, x116003 => if 0 ≤ x4 then (if x4 ≤ (x0.size : Int) then ((Giv.spec_cut_isPoint.f (x0.extract 0 (x4 : Int).toNat)).bind fun t117 => (spec_LikeParse.l1 k x0 x4 t117 0 x116000 ([] : List (S64)) x116002 x116003)) else (none)) else (none)
def spec_LikeParse.l1 : Nat → ByteArray → Int → List ByteArray → Int → Bool → List (S64) → ByteArray → ByteArray → Option (Bool × (List (S64)) × ByteArray × ByteArray)
  | 0, _, _, _, _, _, _, _, _ => none
  | k + 1, x0, x4, x5, x6, x116000, x116001, x116002, x116003 => if x6 < (x5.length : Int) then (if 0 ≤ x6 then (if (rdOf ByteArray.empty x5 x6).toList = ([] : List UInt8) then (spec_LikeParse.l1 k x0 x4 x5 (wrap64 (x6 + 1)) x116000 x116001 x116002 x116003) else ((spec_intOf.f k (rdOf ByteArray.empty x5 x6)).bind fun bt122 => (if x116001.length < 5864062014805 then (spec_LikeParse.l1 k x0 x4 x5 (wrap64 (x6 + 1)) x116000 (x116001 ++ [(⟨bt122.1, bt122.2⟩ : S64)]) x116002 x116003) else (none)))) else (none)) else (if 0 ≤ x4 then (if x4 ≤ (x0.size : Int) then (some (x116000, x116001, x0.extract (x4 : Int).toNat x0.size, x116003)) else (none)) else (none))
def spec_LikeParse.l0 : Nat → ByteArray → Int → Bool → ByteArray → ByteArray → Option (Bool × (List (S64)) × ByteArray × ByteArray)
  | 0, _, _, _, _, _ => none
  | k + 1, x0, x4, x116000, x116002, x116003 => if x4 < (x0.size : Int) then (if 0 ≤ x4 then ((spec_isDigit.f (bt x0 x4)).bind fun t116 => (if t116 = true then (spec_LikeParse.l0 k x0 (wrap64 (x4 + 1)) x116000 x116002 x116003) else (if (bt x0 x4) = 46 then (spec_LikeParse.l0 k x0 (wrap64 (x4 + 1)) x116000 x116002 x116003) else (spec_LikeParse.j3 k x0 x4 x116000 x116002 x116003)))) else (none)) else (spec_LikeParse.j3 k x0 x4 x116000 x116002 x116003)
end
def spec_LikeParse.f (k : Nat) (a0 : ByteArray) : Option (Bool × (List (S64)) × ByteArray × ByteArray) := if a0.toList = ([] : List UInt8) then (spec_LikeParse.j0 k a0 false false (⟨#[]⟩ : ByteArray) a0) else (if 0 < (a0.size : Int) then (spec_LikeParse.j0 k a0 ((bt a0 0) == 118) false (⟨#[]⟩ : ByteArray) a0) else (none))
theorem spec_LikeParse.mono_l : ∀ k, (∀ y0 y1 y2 y3 y4, LeO (spec_LikeParse.j0 k y0 y1 y2 y3 y4) (spec_LikeParse.j0 (k + 1) y0 y1 y2 y3 y4)) ∧ (∀ y0 y1 y2 y3, LeO (spec_LikeParse.j1 k y0 y1 y2 y3) (spec_LikeParse.j1 (k + 1) y0 y1 y2 y3)) ∧ (∀ y0 y1 y2 y3 y4, LeO (spec_LikeParse.j3 k y0 y1 y2 y3 y4) (spec_LikeParse.j3 (k + 1) y0 y1 y2 y3 y4)) ∧ (∀ y0 y1 y2 y3 y4 y5 y6 y7, LeO (spec_LikeParse.l1 k y0 y1 y2 y3 y4 y5 y6 y7) (spec_LikeParse.l1 (k + 1) y0 y1 y2 y3 y4 y5 y6 y7)) ∧ (∀ y0 y1 y2 y3 y4, LeO (spec_LikeParse.l0 k y0 y1 y2 y3 y4) (spec_LikeParse.l0 (k + 1) y0 y1 y2 y3 y4))
  | 0 => ⟨fun _ _ _ _ _ r h => by simp [spec_LikeParse.j0] at h, fun _ _ _ _ r h => by simp [spec_LikeParse.j1] at h, fun _ _ _ _ _ r h => by simp [spec_LikeParse.j3] at h, fun _ _ _ _ _ _ _ _ r h => by simp [spec_LikeParse.l1] at h, fun _ _ _ _ _ r h => by simp [spec_LikeParse.l0] at h⟩
  | k + 1 => by
    obtain ⟨ih0, ih1, ih2, ih3, ih4⟩ := spec_LikeParse.mono_l k
    refine ⟨?_, ?_, ?_, ?_, ?_⟩
    · intro y0 y1 y2 y3 y4
      unfold spec_LikeParse.j0
      repeat' first
      | (with_reducible exact ih0 _ _ _ _ _)
      | (with_reducible exact ih1 _ _ _ _)
      | (with_reducible exact ih2 _ _ _ _ _)
      | (with_reducible exact ih3 _ _ _ _ _ _ _ _)
      | (with_reducible exact ih4 _ _ _ _ _)
      | (with_reducible exact spec_intOf.mono _ _)
      | (with_reducible exact LeO.refl _)
      | (with_reducible exact LeO.none _)
      | (with_reducible refine LeO.ite ?_ ?_)
      | (with_reducible refine LeO.bind ?_ (fun _ => ?_))
      | exact ih0 _ _ _ _ _
      | exact ih1 _ _ _ _
      | exact ih2 _ _ _ _ _
      | exact ih3 _ _ _ _ _ _ _ _
      | exact ih4 _ _ _ _ _
      | exact spec_intOf.mono _ _
      | exact LeO.none _
      | refine LeO.ite ?_ ?_
      | refine LeO.bind ?_ (fun _ => ?_)
    · intro y0 y1 y2 y3
      unfold spec_LikeParse.j1
      repeat' first
      | (with_reducible exact ih0 _ _ _ _ _)
      | (with_reducible exact ih1 _ _ _ _)
      | (with_reducible exact ih2 _ _ _ _ _)
      | (with_reducible exact ih3 _ _ _ _ _ _ _ _)
      | (with_reducible exact ih4 _ _ _ _ _)
      | (with_reducible exact spec_intOf.mono _ _)
      | (with_reducible exact LeO.refl _)
      | (with_reducible exact LeO.none _)
      | (with_reducible refine LeO.ite ?_ ?_)
      | (with_reducible refine LeO.bind ?_ (fun _ => ?_))
      | exact ih0 _ _ _ _ _
      | exact ih1 _ _ _ _
      | exact ih2 _ _ _ _ _
      | exact ih3 _ _ _ _ _ _ _ _
      | exact ih4 _ _ _ _ _
      | exact spec_intOf.mono _ _
      | exact LeO.none _
      | refine LeO.ite ?_ ?_
      | refine LeO.bind ?_ (fun _ => ?_)
    · intro y0 y1 y2 y3 y4
      unfold spec_LikeParse.j3
      repeat' first
      | (with_reducible exact ih0 _ _ _ _ _)
      | (with_reducible exact ih1 _ _ _ _)
      | (with_reducible exact ih2 _ _ _ _ _)
      | (with_reducible exact ih3 _ _ _ _ _ _ _ _)
      | (with_reducible exact ih4 _ _ _ _ _)
      | (with_reducible exact spec_intOf.mono _ _)
      | (with_reducible exact LeO.refl _)
      | (with_reducible exact LeO.none _)
      | (with_reducible refine LeO.ite ?_ ?_)
      | (with_reducible refine LeO.bind ?_ (fun _ => ?_))
      | exact ih0 _ _ _ _ _
      | exact ih1 _ _ _ _
      | exact ih2 _ _ _ _ _
      | exact ih3 _ _ _ _ _ _ _ _
      | exact ih4 _ _ _ _ _
      | exact spec_intOf.mono _ _
      | exact LeO.none _
      | refine LeO.ite ?_ ?_
      | refine LeO.bind ?_ (fun _ => ?_)
    · intro y0 y1 y2 y3 y4 y5 y6 y7
      unfold spec_LikeParse.l1
      repeat' first
      | (with_reducible exact ih0 _ _ _ _ _)
      | (with_reducible exact ih1 _ _ _ _)
      | (with_reducible exact ih2 _ _ _ _ _)
      | (with_reducible exact ih3 _ _ _ _ _ _ _ _)
      | (with_reducible exact ih4 _ _ _ _ _)
      | (with_reducible exact spec_intOf.mono _ _)
      | (with_reducible exact LeO.refl _)
      | (with_reducible exact LeO.none _)
      | (with_reducible refine LeO.ite ?_ ?_)
      | (with_reducible refine LeO.bind ?_ (fun _ => ?_))
      | exact ih0 _ _ _ _ _
      | exact ih1 _ _ _ _
      | exact ih2 _ _ _ _ _
      | exact ih3 _ _ _ _ _ _ _ _
      | exact ih4 _ _ _ _ _
      | exact spec_intOf.mono _ _
      | exact LeO.none _
      | refine LeO.ite ?_ ?_
      | refine LeO.bind ?_ (fun _ => ?_)
    · intro y0 y1 y2 y3 y4
      unfold spec_LikeParse.l0
      repeat' first
      | (with_reducible exact ih0 _ _ _ _ _)
      | (with_reducible exact ih1 _ _ _ _)
      | (with_reducible exact ih2 _ _ _ _ _)
      | (with_reducible exact ih3 _ _ _ _ _ _ _ _)
      | (with_reducible exact ih4 _ _ _ _ _)
      | (with_reducible exact spec_intOf.mono _ _)
      | (with_reducible exact LeO.refl _)
      | (with_reducible exact LeO.none _)
      | (with_reducible refine LeO.ite ?_ ?_)
      | (with_reducible refine LeO.bind ?_ (fun _ => ?_))
      | exact ih0 _ _ _ _ _
      | exact ih1 _ _ _ _
      | exact ih2 _ _ _ _ _
      | exact ih3 _ _ _ _ _ _ _ _
      | exact ih4 _ _ _ _ _
      | exact spec_intOf.mono _ _
      | exact LeO.none _
      | refine LeO.ite ?_ ?_
      | refine LeO.bind ?_ (fun _ => ?_)
theorem spec_LikeParse.mono : ∀ a0 k, LeO (spec_LikeParse.f k a0) (spec_LikeParse.f (k + 1) a0) := by
  intro a0 k
  obtain ⟨ih0, ih1, ih2, ih3, ih4⟩ := spec_LikeParse.mono_l k
  unfold spec_LikeParse.f
  repeat' first
      | (with_reducible exact ih0 _ _ _ _ _)
      | (with_reducible exact ih1 _ _ _ _)
      | (with_reducible exact ih2 _ _ _ _ _)
      | (with_reducible exact ih3 _ _ _ _ _ _ _ _)
      | (with_reducible exact ih4 _ _ _ _ _)
      | (with_reducible exact spec_intOf.mono _ _)
      | (with_reducible exact LeO.refl _)
      | (with_reducible exact LeO.none _)
      | (with_reducible refine LeO.ite ?_ ?_)
      | (with_reducible refine LeO.bind ?_ (fun _ => ?_))
      | exact ih0 _ _ _ _ _
      | exact ih1 _ _ _ _
      | exact ih2 _ _ _ _ _
      | exact ih3 _ _ _ _ _ _ _ _
      | exact ih4 _ _ _ _ _
      | exact spec_intOf.mono _ _
      | exact LeO.none _
      | refine LeO.ite ?_ ?_
      | refine LeO.bind ?_ (fun _ => ?_)
def spec_LikeParse.T12 : Bool × List (List Nat × List Nat) := (true, [([], []), ([0], [0]), ([], []), ([], []), ([2, 3], [2, 3]), ([4], [4]), ([5], [5]), ([6], [6]), ([1, 7, 6], [1, 7]), ([0, 1, 2, 3, 4, 5, 6, 7, 8], []), ([9, 8, 8, 0, 1, 2, 3, 4, 5, 6, 7, 8], [8, 9])])
def spec_LikeParse.B12 : List Nat := [0, 1, 0, 0, 12, 28, 60, 124, 255, 511, 1023]
theorem spec_LikeParse.tab12 : rtab .any (opsOf Tryz.f19 12) = spec_LikeParse.T12 := by kernel_rfl
theorem spec_LikeParse.bits12 : waitsOk spec_LikeParse.T12.2 spec_LikeParse.B12 = true := by kernel_rfl
set_option maxHeartbeats 8000000 in
set_option maxRecDepth 100000 in
theorem spec_LikeParse.calls (k : Nat) (a0 : ByteArray) (r1 : Bool) (r2 : List (S64)) (r3 : ByteArray) (r4 : ByteArray) (w : World) (h : spec_LikeParse.f k a0 = some (r1, r2, r3, r4)) :
    Calls Tryz.prog 19 #[.string a0] w fun e w' => ∃ v1_ : Value, e = .returned (.agg #[.bool r1, v1_, .string r3, .string r4]) ∧ Kd.R k64 64 w' w.heap.size (fun _ => True) v1_ r2 ∧ Below w.heap.size w w' := by
  have HB := Aside0.mk (Below.refl w.heap.size w)
  have H : (if a0.toList = ([] : List UInt8) then (spec_LikeParse.j0 k a0 false false (⟨#[]⟩ : ByteArray) a0) else (if 0 < (a0.size : Int) then (spec_LikeParse.j0 k a0 ((bt a0 0) == 118) false (⟨#[]⟩ : ByteArray) a0) else (none))) = some (r1, r2, r3, r4) := h
  clear h
  have HC2 := Aside0.mk H
  clear H
  go_enter Tryz.func19, Tryz.ntmps19
  go_upto_region 2 with (first | ((with_reducible refine gate_dst (N := 2) rfl ?_); refine box_event ?hg (N := 2) ?hd (cs := #[.bool false, .slice none 0 0, .string (⟨#[]⟩ : ByteArray), .string (⟨#[]⟩ : ByteArray)]) (t := 37) ?hr ?_; (case hd => rfl); (case hg => rfl); (case hr => first | (go_simp; done) | (go_simp; rfl)); intro gb114 hg w3 hbox hb; have n0_ := Aside0.mk (below_step (by repeat (first | (with_reducible first | exact HB.out | apply below_alloc | apply pw_below_drewN | apply below_drew1) | exact HB.out)) hb); have n1_ := Aside0.mk (hbox); have n2_ := Aside0.mk ((by rw [hg]; exact (below_size (by repeat (first | (with_reducible first | exact HB.out | apply below_alloc | apply pw_below_drewN | apply below_drew1) | exact HB.out))) : w.heap.size ≤ gb114)); have n3_ := Aside0.mk ((by rw [hg]; exact (below_size (by repeat (first | (with_reducible first | exact HB.out | apply below_alloc | apply pw_below_drewN | apply below_drew1) | exact HB.out))) : w.heap.size ≤ gb114)); clear HB; have HB := n0_; have BK114 := n1_; have GW114 := n2_; have GE114 := n3_; clear n0_ n1_ n2_ n3_; clear hb hbox hg) | ((with_reducible refine gate_dst (N := 3) rfl ?_); refine box_event ?hg (N := 3) ?hd (cs := #[.bool false, .slice none 0 0, .string (⟨#[]⟩ : ByteArray), .string (⟨#[]⟩ : ByteArray)]) (t := 37) ?hr ?_; (case hd => rfl); (case hg => rfl); (case hr => first | (go_simp; done) | (go_simp; rfl)); intro gb115 hg w4 hbox hb; have n0_ := Aside0.mk (blk_below (g := gb114) (o := .cells #[.bool false, .slice none 0 0, .string (⟨#[]⟩ : ByteArray), .string (⟨#[]⟩ : ByteArray)] 37 (0, 0)) (by (with_reducible repeat (first | refine blk_drewN ?_ _ | refine blk_drew ?_ | refine blk_alloc ?_ _)); exact BK114.out) hb); have n1_ := Aside0.mk (below_step (by repeat (first | (with_reducible first | exact HB.out | apply below_alloc | apply pw_below_drewN | apply below_drew1 | refine below_set ?_ GE114.out) | exact HB.out)) hb); have n2_ := Aside0.mk (hbox); have n3_ := Aside0.mk ((by rw [hg]; exact (below_size (by repeat (first | (with_reducible first | exact HB.out | apply below_alloc | apply pw_below_drewN | apply below_drew1 | refine below_set ?_ GE114.out) | exact HB.out))) : w.heap.size ≤ gb115)); have n4_ := Aside0.mk ((by rw [hg]; exact (below_size (by repeat (first | (with_reducible first | exact HB.out | apply below_alloc | apply pw_below_drewN | apply below_drew1 | refine below_set ?_ GE114.out) | exact HB.out))) : w.heap.size ≤ gb115)); have n5_ := Aside0.mk ((by rw [hg]; exact Nat.ne_of_lt (blk_lt (g := gb114) (o := .cells #[.bool false, .slice none 0 0, .string (⟨#[]⟩ : ByteArray), .string (⟨#[]⟩ : ByteArray)] 37 (0, 0)) (by (with_reducible repeat (first | refine blk_drewN ?_ _ | refine blk_drew ?_ | refine blk_alloc ?_ _)); exact BK114.out)) : gb114 ≠ gb115)); have n6_ := Aside0.mk ((by rw [hg]; exact Nat.ne_of_gt (blk_lt (g := gb114) (o := .cells #[.bool false, .slice none 0 0, .string (⟨#[]⟩ : ByteArray), .string (⟨#[]⟩ : ByteArray)] 37 (0, 0)) (by (with_reducible repeat (first | refine blk_drewN ?_ _ | refine blk_drew ?_ | refine blk_alloc ?_ _)); exact BK114.out)) : gb115 ≠ gb114)); clear BK114; clear HB; have BK114 := n0_; have HB := n1_; have BK115 := n2_; have GW115 := n3_; have GE115 := n4_; have NB114_115 := n5_; have NB115_114 := n6_; clear n0_ n1_ n2_ n3_ n4_ n5_ n6_; clear hb hbox hg; have hnb5 := NB115_114.out; have hnc5 := NB114_115.out; have hcz6_0 : w4.cell? ⟨gb115, 0, none⟩ = some (.bool false) := (blk_cell BK115.out 0).trans rfl; have hcz6_1 : w4.cell? ⟨gb115, 1, none⟩ = some (.slice none 0 0) := (blk_cell BK115.out 1).trans rfl; have hcz6_2 : w4.cell? ⟨gb115, 2, none⟩ = some (.string (⟨#[]⟩ : ByteArray)) := (blk_cell BK115.out 2).trans rfl; have hcz6_3 : w4.cell? ⟨gb115, 3, none⟩ = some (.string (⟨#[]⟩ : ByteArray)) := (blk_cell BK115.out 3).trans rfl; have hfz6_0 := blk_frozen BK115.out 0; have hfz6_1 := blk_frozen BK115.out 1; have hfz6_2 := blk_frozen BK115.out 2; have hfz6_3 := blk_frozen BK115.out 3))
  (try simp only [Act.put, List.setIfInBounds_toArray, List.set_cons_zero, List.set_cons_succ])
  go_cut [15] (fun v15 wc => ∃ (kq : Nat) (x15_1 : Bool), v15 = .bool x15_1 ∧ Aside0 (spec_LikeParse.j0 kq a0 x15_1 false (⟨#[]⟩ : ByteArray) a0 = some (r1, r2, r3, r4)) ∧ Aside0 (kq ≤ k) ∧ Aside0 (wc.heap[gb114]? = some (.cells #[.bool false, (.slice none 0 0), .string (⟨#[]⟩ : ByteArray), .string (⟨#[]⟩ : ByteArray)] 37 (0, 0))) ∧ Aside0 (wc.heap[gb115]? = some (.cells #[.bool false, (.slice none 0 0), .string (⟨#[]⟩ : ByteArray), .string a0] 37 (0, 0))) ∧ Aside0 (Below w.heap.size w wc))
  case first =>
    have H := HC2.out
    clear HC2
    by_cases c7 : a0.toList = ([] : List UInt8)
    · rw [if_pos c7] at H
      have c7b0 : (a0.toList == ([] : List UInt8)) = true := beq_iff_eq.mpr c7
      have c7b1 : (a0.toList != ([] : List UInt8)) = false := bne_eq_false_iff_eq.mpr c7
      clear c7
      (first | rw [c7b0] | (simp only [i64_w, i32_w]; rw [c7b0]) | skip)
      have H' := Aside0.mk H
      clear H
      go_wp2
      go_meet
      case rel => exact ⟨_, (false), (by first | rfl | (simp; done) | (simp [*]; done) | (simp [bne_nil_]; done)), H', ⟨by first | omega | exact Nat.le_refl _⟩, ⟨by (with_reducible repeat (first | refine blk_drewN ?_ _ | refine blk_drew ?_ | refine blk_alloc ?_ _)); refine blk_far ?_ NB114_115.out _; (with_reducible repeat (first | refine blk_drewN ?_ _ | refine blk_drew ?_ | refine blk_alloc ?_ _)); refine blk_far ?_ NB114_115.out _; (with_reducible repeat (first | refine blk_drewN ?_ _ | refine blk_drew ?_ | refine blk_alloc ?_ _)); refine blk_far ?_ NB114_115.out _; (with_reducible repeat (first | refine blk_drewN ?_ _ | refine blk_drew ?_ | refine blk_alloc ?_ _)); refine blk_far ?_ NB114_115.out _; (with_reducible repeat (first | refine blk_drewN ?_ _ | refine blk_drew ?_ | refine blk_alloc ?_ _)); exact BK114.out⟩, ⟨by (with_reducible repeat (first | refine blk_drewN ?_ _ | refine blk_drew ?_ | refine blk_alloc ?_ _)); refine blk_put (cs := #[.bool false, .slice none 0 0, .string (⟨#[]⟩ : ByteArray), .string (⟨#[]⟩ : ByteArray)]) ?_ 3 _ rfl; (with_reducible repeat (first | refine blk_drewN ?_ _ | refine blk_drew ?_ | refine blk_alloc ?_ _)); refine blk_put (cs := #[.bool false, .slice none 0 0, .string (⟨#[]⟩ : ByteArray), .string (⟨#[]⟩ : ByteArray)]) ?_ 2 _ rfl; (with_reducible repeat (first | refine blk_drewN ?_ _ | refine blk_drew ?_ | refine blk_alloc ?_ _)); refine blk_put (cs := #[.bool false, .slice none 0 0, .string (⟨#[]⟩ : ByteArray), .string (⟨#[]⟩ : ByteArray)]) ?_ 1 _ rfl; (with_reducible repeat (first | refine blk_drewN ?_ _ | refine blk_drew ?_ | refine blk_alloc ?_ _)); refine blk_put (cs := #[.bool false, .slice none 0 0, .string (⟨#[]⟩ : ByteArray), .string (⟨#[]⟩ : ByteArray)]) ?_ 0 _ rfl; (with_reducible repeat (first | refine blk_drewN ?_ _ | refine blk_drew ?_ | refine blk_alloc ?_ _)); exact BK115.out⟩, ⟨by repeat (first | (with_reducible first | exact HB.out | apply below_alloc | apply pw_below_drewN | apply below_drew1 | refine below_set ?_ GE114.out | refine below_set ?_ GE115.out) | exact HB.out)⟩⟩
    · rw [if_neg c7] at H
      have c7b0 : (a0.toList == ([] : List UInt8)) = false := beq_eq_false_iff_ne.mpr c7
      have c7b1 : (a0.toList != ([] : List UInt8)) = true := bne_iff_ne.mpr c7
      (first | rw [c7b0] | (simp only [i64_w, i32_w]; rw [c7b0]) | skip)
      by_cases c8 : 0 < (a0.size : Int)
      · rw [if_pos c8] at H
        have c8b0 : decide (0 < (a0.size : Int)) = true := decide_eq_true c8
        have c8b1 : decide (0 < a0.size) = true := decide_eq_true (by omega)
        clear c8
        have H' := Aside0.mk H
        clear H
        have p9 : 0 ≤ (0 : Int) := (by omega)
        have q9 : 0 < a0.size := (by have : (0 : Int) < (a0.size : Int) := of_decide_eq_true (by first | (with_reducible assumption) | assumption); omega)
        have hx9 : ∀ h : 0 < a0.size, ((a0[0]'h).toNat : Int) = bt a0 0 := bt_at a0 0
        clear p9
        have qi9 : (0 < (a0.size : Int)) = True := eq_true (of_decide_eq_true (by first | (with_reducible assumption) | assumption))
        replace q9 := eq_true q9
        go_wp2
        go_meet
        case rel => exact ⟨_, (((bt a0 0) == 118)), (by first | rfl | (simp; done) | (simp [*]; done) | (simp [bne_nil_]; done)), H', ⟨by first | omega | exact Nat.le_refl _⟩, ⟨by (with_reducible repeat (first | refine blk_drewN ?_ _ | refine blk_drew ?_ | refine blk_alloc ?_ _)); refine blk_far ?_ NB114_115.out _; (with_reducible repeat (first | refine blk_drewN ?_ _ | refine blk_drew ?_ | refine blk_alloc ?_ _)); refine blk_far ?_ NB114_115.out _; (with_reducible repeat (first | refine blk_drewN ?_ _ | refine blk_drew ?_ | refine blk_alloc ?_ _)); refine blk_far ?_ NB114_115.out _; (with_reducible repeat (first | refine blk_drewN ?_ _ | refine blk_drew ?_ | refine blk_alloc ?_ _)); refine blk_far ?_ NB114_115.out _; (with_reducible repeat (first | refine blk_drewN ?_ _ | refine blk_drew ?_ | refine blk_alloc ?_ _)); exact BK114.out⟩, ⟨by (with_reducible repeat (first | refine blk_drewN ?_ _ | refine blk_drew ?_ | refine blk_alloc ?_ _)); refine blk_put (cs := #[.bool false, .slice none 0 0, .string (⟨#[]⟩ : ByteArray), .string (⟨#[]⟩ : ByteArray)]) ?_ 3 _ rfl; (with_reducible repeat (first | refine blk_drewN ?_ _ | refine blk_drew ?_ | refine blk_alloc ?_ _)); refine blk_put (cs := #[.bool false, .slice none 0 0, .string (⟨#[]⟩ : ByteArray), .string (⟨#[]⟩ : ByteArray)]) ?_ 2 _ rfl; (with_reducible repeat (first | refine blk_drewN ?_ _ | refine blk_drew ?_ | refine blk_alloc ?_ _)); refine blk_put (cs := #[.bool false, .slice none 0 0, .string (⟨#[]⟩ : ByteArray), .string (⟨#[]⟩ : ByteArray)]) ?_ 1 _ rfl; (with_reducible repeat (first | refine blk_drewN ?_ _ | refine blk_drew ?_ | refine blk_alloc ?_ _)); refine blk_put (cs := #[.bool false, .slice none 0 0, .string (⟨#[]⟩ : ByteArray), .string (⟨#[]⟩ : ByteArray)]) ?_ 0 _ rfl; (with_reducible repeat (first | refine blk_drewN ?_ _ | refine blk_drew ?_ | refine blk_alloc ?_ _)); exact BK115.out⟩, ⟨by repeat (first | (with_reducible first | exact HB.out | apply below_alloc | apply pw_below_drewN | apply below_drew1 | refine below_set ?_ GE114.out | refine below_set ?_ GE115.out) | exact HB.out)⟩⟩
      · rw [if_neg c8] at H
        exact absurd H (by simp)
  case rest =>
    clear HC2
    try clear c1
    try clear p2
    try clear c5
    try clear c7
    try clear c7b0
    try clear c7b1
    try clear c8
    try clear c8b0
    try clear c8b1
    try clear p9
    try clear q9
    try clear hx9
    try clear qi9
    try clear hcz6_0
    try clear hcz6_1
    try clear hcz6_2
    try clear hcz6_3
    try clear hfz6_0
    try clear hfz6_1
    try clear hfz6_2
    try clear hfz6_3
    try clear p9
    try clear q9
    obtain ⟨kq, x15_1, rfl, HA, HJ1, BK114, BK115, HB⟩ := hcut
    cases kq with
    | zero => exact absurd HA.out (by simp [spec_LikeParse.j0])
    | succ kj1 =>
      have H := HA.out
      clear HA
      simp only [spec_LikeParse.j0] at H
      have HC10 := Aside0.mk H
      clear H
      go_upto_if 15 with (fail)
      go_cut [0] (fun v0 wc => ∃ (kq : Nat) (x0_9 : ByteArray) (x116000_9 : Bool), v0 = .string x0_9 ∧ Aside0 (spec_LikeParse.j1 kq x0_9 x116000_9 (⟨#[]⟩ : ByteArray) a0 = some (r1, r2, r3, r4)) ∧ Aside0 (kq ≤ kj1) ∧ Aside0 (wc.heap[gb114]? = some (.cells #[.bool false, (.slice none 0 0), .string (⟨#[]⟩ : ByteArray), .string (⟨#[]⟩ : ByteArray)] 37 (0, 0))) ∧ Aside0 (wc.heap[gb115]? = some (.cells #[.bool x116000_9, (.slice none 0 0), .string (⟨#[]⟩ : ByteArray), .string a0] 37 (0, 0))) ∧ Aside0 (Below w.heap.size w wc))
      case first =>
        have H := HC10.out
        clear HC10
        by_cases c11 : x15_1 = true
        · subst c11
          have H1 : (if 1 ≤ (a0.size : Int) then (spec_LikeParse.j1 kj1 (a0.extract 1 a0.size) true (⟨#[]⟩ : ByteArray) a0) else (none)) = some (r1, r2, r3, r4) := by rw [if_pos rfl] at H; exact H
          clear H
          have H := H1
          clear H1
          by_cases c12 : 1 ≤ (a0.size : Int)
          · rw [if_pos c12] at H
            have c12b0 := eq_true c12
            have c12b1 : decide (1 ≤ (a0.size : Int)) = true := decide_eq_true c12
            clear c12
            have H' := Aside0.mk H
            clear H
            try go_wp2
            have n0_ := Aside0.mk (blk_drew BK114.out)
            have n1_ := Aside0.mk (blk_drew BK115.out)
            have n2_ := Aside0.mk (below_drew1 HB.out)
            clear BK114
            clear BK115
            clear HB
            have BK114 := n0_
            have BK115 := n1_
            have HB := n2_
            clear n0_ n1_ n2_
            refine start_ (n := 5) (S := fun w' => True) (ds := []) #[false, false, false, false, false] (by kernel_rfl) rfl rfl trivial (fun hHeld => ?_)
            generalize wc.drew = w13 at BK114 BK115 HB hHeld ⊢
            refine pure_ (i := 0) (N := some 16) (v := ?_) (a' := ?_) #[true, false, false, false, false] rfl rfl (by kernel_rfl) (fun _ _ _ h => h) (Or.inl ⟨by rfl, ?_⟩) ?_ ?_
            rotate_left
            · intro w'
              go_simp
              with_reducible rfl
            rotate_left
            · simp only [Act.put, List.setIfInBounds_toArray, List.set_cons_zero, List.set_cons_succ, i64_w, i32_w]
              rfl
            refine pure_ (i := 1) (N := some 17) (v := ?_) (a' := ?_) #[true, true, false, false, false] rfl rfl (by kernel_rfl) (fun _ _ _ h => h) (Or.inl ⟨by rfl, ?_⟩) ?_ ?_
            rotate_left
            · intro w'
              go_simp
              with_reducible rfl
            rotate_left
            · simp only [Act.put, List.setIfInBounds_toArray, List.set_cons_zero, List.set_cons_succ, i64_w, i32_w]
              rfl
            refine pure_ (i := 2) (N := some 18) (v := ?_) (a' := ?_) #[true, true, true, false, false] rfl rfl (by kernel_rfl) (fun _ _ _ h => h) (Or.inl ⟨by rfl, ?_⟩) ?_ ?_
            rotate_left
            · intro w'
              go_simp
              with_reducible rfl
            rotate_left
            · simp only [Act.put, List.setIfInBounds_toArray, List.set_cons_zero, List.set_cons_succ, i64_w, i32_w]
              rfl
            refine one_ (i := 3) (N := none) #[true, true, true, true, false] rfl rfl (by kernel_rfl) (by decide) (fun K hK => ?_)
            have hs14 : w13.cell? ⟨gb115, 0, none⟩ = some (.bool false) := (blk_cell BK115.out 0).trans rfl
            have hfs14 := blk_frozen BK115.out 0
            have hns14_0 := NB114_115.out
            have hms14_0 := NB115_114.out
            refine skip_ (w1 := ?_) (by rfl) rfl ?_ ?_
            rotate_left
            · go_simp
              rfl
            refine hK.out _ _ trivial (fun hHeld => ?_)
            clear hK K
            refine pure_ (i := 4) (N := some 0) (v := ?_) (a' := ?_) #[true, true, true, true, true] rfl rfl (by kernel_rfl) (fun _ _ _ h => h) (Or.inl ⟨by rfl, ?_⟩) ?_ ?_
            rotate_left
            · intro w'
              go_simp
              with_reducible rfl
            rotate_left
            · simp only [Act.put, List.setIfInBounds_toArray, List.set_cons_zero, List.set_cons_succ, i64_w, i32_w]
              rfl
            refine done_ (by kernel_rfl) ?_
            try go_wp2
            go_meet
            case rel => exact ⟨_, (a0.extract 1 a0.size), (true), (by first | rfl | (simp; done) | (simp [*]; done) | (simp [bne_nil_]; done)), H', ⟨by have := HJ1.out; first | omega | exact Nat.le_refl _⟩, ⟨by (with_reducible repeat (first | refine blk_drewN ?_ _ | refine blk_drew ?_ | refine blk_alloc ?_ _)); refine blk_far ?_ NB114_115.out _; (with_reducible repeat (first | refine blk_drewN ?_ _ | refine blk_drew ?_ | refine blk_alloc ?_ _)); exact BK114.out⟩, ⟨by (with_reducible repeat (first | refine blk_drewN ?_ _ | refine blk_drew ?_ | refine blk_alloc ?_ _)); refine blk_put (cs := #[.bool false, .slice none 0 0, .string (⟨#[]⟩ : ByteArray), .string a0]) ?_ 0 _ rfl; (with_reducible repeat (first | refine blk_drewN ?_ _ | refine blk_drew ?_ | refine blk_alloc ?_ _)); exact BK115.out⟩, ⟨by repeat (first | (with_reducible first | exact HB.out | apply below_alloc | apply pw_below_drewN | apply below_drew1 | refine below_set ?_ GE114.out | refine below_set ?_ GE115.out) | exact HB.out)⟩⟩
          · rw [if_neg c12] at H
            exact absurd H (by simp)
        · replace c11 := Bool.eq_false_iff.mpr c11
          subst c11
          have H1 : (spec_LikeParse.j1 kj1 a0 false (⟨#[]⟩ : ByteArray) a0) = some (r1, r2, r3, r4) := by rw [if_neg (show ¬ (false = true) by decide)] at H; exact H
          clear H
          have H := H1
          clear H1
          have H' := Aside0.mk H
          clear H
          go_wp2
          go_meet
          case rel => exact ⟨_, (a0), (false), (by first | rfl | (simp; done) | (simp [*]; done) | (simp [bne_nil_]; done)), H', ⟨by have := HJ1.out; first | omega | exact Nat.le_refl _⟩, ⟨by (with_reducible repeat (first | refine blk_drewN ?_ _ | refine blk_drew ?_ | refine blk_alloc ?_ _)); exact BK114.out⟩, ⟨by (with_reducible repeat (first | refine blk_drewN ?_ _ | refine blk_drew ?_ | refine blk_alloc ?_ _)); exact BK115.out⟩, ⟨by repeat (first | (with_reducible first | exact HB.out | apply below_alloc | apply pw_below_drewN | apply below_drew1 | refine below_set ?_ GE114.out | refine below_set ?_ GE115.out) | exact HB.out)⟩⟩
      case rest =>
        clear HC10
        try clear c1
        try clear p2
        try clear c5
        try clear c7
        try clear c7b0
        try clear c7b1
        try clear c8
        try clear c8b0
        try clear c8b1
        try clear p9
        try clear q9
        try clear hx9
        try clear qi9
        try clear c11
        try clear c12
        try clear c12b0
        try clear c12b1
        try clear hcz6_0
        try clear hcz6_1
        try clear hcz6_2
        try clear hcz6_3
        try clear hfz6_0
        try clear hfz6_1
        try clear hfz6_2
        try clear hfz6_3
        try clear p2
        try clear p9
        try clear q9
        obtain ⟨kq, x0_9, x116000_9, rfl, HA, HJ9, BK114, BK115, HB⟩ := hcut
        cases kq with
        | zero => exact absurd HA.out (by simp [spec_LikeParse.j1])
        | succ kj9 =>
          have H := HA.out
          clear HA
          simp only [spec_LikeParse.j1] at H
          have HC15 := Aside0.mk H
          clear H
          go_upto_block 0 with (fail)
          go_cut [4] (fun v4 wc => ∃ (kq : Nat) (x4_14 : Int), v4 = .int .i64 x4_14 ∧ Aside0 (spec_LikeParse.j3 kq x0_9 x4_14 x116000_9 (⟨#[]⟩ : ByteArray) a0 = some (r1, r2, r3, r4)) ∧ Aside0 (kq ≤ kj9) ∧ Aside0 (wc.heap[gb114]? = some (.cells #[.bool false, (.slice none 0 0), .string (⟨#[]⟩ : ByteArray), .string (⟨#[]⟩ : ByteArray)] 37 (0, 0))) ∧ Aside0 (wc.heap[gb115]? = some (.cells #[.bool x116000_9, (.slice none 0 0), .string (⟨#[]⟩ : ByteArray), .string a0] 37 (0, 0))) ∧ Aside0 (Below w.heap.size w wc))
          case first =>
            have H := HC15.out
            clear HC15
            have H' := Aside0.mk H
            clear H
            go_wp2
            go_loopg [4] kj9 (fun kq v4 w' => ∃ (x4_3 : Int), v4 = .int .i64 x4_3 ∧ Aside0 (spec_LikeParse.l0 kq x0_9 x4_3 x116000_9 (⟨#[]⟩ : ByteArray) a0 = some (r1, r2, r3, r4)) ∧ Aside0 (kq ≤ kj9) ∧ Aside0 (w'.heap[gb114]? = some (.cells #[.bool false, (.slice none 0 0), .string (⟨#[]⟩ : ByteArray), .string (⟨#[]⟩ : ByteArray)] 37 (0, 0))) ∧ Aside0 (w'.heap[gb115]? = some (.cells #[.bool x116000_9, (.slice none 0 0), .string (⟨#[]⟩ : ByteArray), .string a0] 37 (0, 0))) ∧ Aside0 (Below w.heap.size w w'))
            case atStart => exact ⟨(0), (by first | rfl | (simp; done) | (simp [*]; done) | (simp [bne_nil_]; done)), H', ⟨Nat.le_refl _⟩, ⟨by (with_reducible repeat (first | refine blk_drewN ?_ _ | refine blk_drew ?_ | refine blk_alloc ?_ _)); exact BK114.out⟩, ⟨by (with_reducible repeat (first | refine blk_drewN ?_ _ | refine blk_drew ?_ | refine blk_alloc ?_ _)); exact BK115.out⟩, ⟨by repeat (first | (with_reducible first | exact HB.out | apply below_alloc | apply pw_below_drewN | apply below_drew1 | refine below_set ?_ GE114.out | refine below_set ?_ GE115.out) | exact HB.out)⟩⟩
            case round =>
              clear H'
              try clear c1
              try clear p2
              try clear c5
              try clear c7
              try clear c7b0
              try clear c7b1
              try clear c8
              try clear c8b0
              try clear c8b1
              try clear p9
              try clear q9
              try clear hx9
              try clear qi9
              try clear c11
              try clear c12
              try clear c12b0
              try clear c12b1
              try clear hcz6_0
              try clear hcz6_1
              try clear hcz6_2
              try clear hcz6_3
              try clear hfz6_0
              try clear hfz6_1
              try clear hfz6_2
              try clear hfz6_3
              try clear p2
              try clear p9
              try clear q9
              obtain ⟨x4_3, rfl, HA, HK3, BK114, BK115, HB⟩ := hrel
              cases gk with
              | zero => exact absurd HA.out (by simp [spec_LikeParse.l0])
              | succ k3 =>
                have H := HA.out
                clear HA
                simp only [spec_LikeParse.l0] at H
                by_cases c16 : x4_3 < (x0_9.size : Int)
                · rw [if_pos c16] at H
                  have c16b0 : decide (x4_3 < (x0_9.size : Int)) = true := decide_eq_true c16
                  clear c16
                  (first | rw [c16b0] | (simp only [i64_w, i32_w]; rw [c16b0]) | skip)
                  by_cases c17 : 0 ≤ x4_3
                  · rw [if_pos c17] at H
                    have c17b0 : decide (0 ≤ x4_3) = true := decide_eq_true c17
                    clear c17
                    replace H := Option.bind_eq_some_iff.mp H
                    obtain ⟨t116, A190, H⟩ := H
                    replace H : (if t116 = true then (spec_LikeParse.l0 k3 x0_9 (wrap64 (x4_3 + 1)) x116000_9 (⟨#[]⟩ : ByteArray) a0) else (if (bt x0_9 x4_3) = 46 then (spec_LikeParse.l0 k3 x0_9 (wrap64 (x4_3 + 1)) x116000_9 (⟨#[]⟩ : ByteArray) a0) else (spec_LikeParse.j3 k3 x0_9 x4_3 x116000_9 (⟨#[]⟩ : ByteArray) a0))) = some (r1, r2, r3, r4) := H
                    have A19 := Aside0.mk A190
                    clear A190
                    by_cases c20 : t116 = true
                    · subst c20
                      have H1 : (spec_LikeParse.l0 k3 x0_9 (wrap64 (x4_3 + 1)) x116000_9 (⟨#[]⟩ : ByteArray) a0) = some (r1, r2, r3, r4) := by rw [if_pos rfl] at H; exact H
                      clear H
                      have H := H1
                      clear H1
                      have H' := Aside0.mk H
                      clear H
                      have p18 : 0 ≤ (x4_3 : Int) := of_decide_eq_true (by first | (with_reducible assumption) | assumption)
                      have q18 : x4_3 < (x0_9.size : Int) := of_decide_eq_true (by first | (with_reducible assumption) | assumption)
                      have hx18 := bt_at x0_9 x4_3
                      replace p18 := eq_true p18
                      replace q18 := eq_true q18
                      go_wp2_with (first | (go_at_call 38; (with_reducible refine (spec_isDigit.calls (bt x0_9 x4_3) true _ A19.out).mono ?_); rintro e w' ⟨rfl, ⟨nd, rfl⟩⟩))
                      go_roundg k3
                      case measure => have := HJ1.out; have := HJ9.out; have := HK3.out; omega
                      case rel => exact ⟨(wrap64 (x4_3 + 1)), (by first | rfl | (simp; done) | (simp [*]; done) | (simp [bne_nil_]; done)), H', ⟨by have := HJ1.out; have := HJ9.out; have := HK3.out; omega⟩, ⟨by (with_reducible repeat (first | refine blk_drewN ?_ _ | refine blk_drew ?_ | refine blk_alloc ?_ _)); exact BK114.out⟩, ⟨by (with_reducible repeat (first | refine blk_drewN ?_ _ | refine blk_drew ?_ | refine blk_alloc ?_ _)); exact BK115.out⟩, ⟨by repeat (first | (with_reducible first | exact HB.out | apply below_alloc | apply pw_below_drewN | apply below_drew1 | refine below_set ?_ GE114.out | refine below_set ?_ GE115.out) | exact HB.out)⟩⟩
                    · replace c20 := Bool.eq_false_iff.mpr c20
                      subst c20
                      have H1 : (if (bt x0_9 x4_3) = 46 then (spec_LikeParse.l0 k3 x0_9 (wrap64 (x4_3 + 1)) x116000_9 (⟨#[]⟩ : ByteArray) a0) else (spec_LikeParse.j3 k3 x0_9 x4_3 x116000_9 (⟨#[]⟩ : ByteArray) a0)) = some (r1, r2, r3, r4) := by rw [if_neg (show ¬ (false = true) by decide)] at H; exact H
                      clear H
                      have H := H1
                      clear H1
                      by_cases c22 : (bt x0_9 x4_3) = 46
                      · rw [if_pos c22] at H
                        have c22b0 : ((bt x0_9 x4_3) == 46) = true := beq_iff_eq.mpr c22
                        have c22b1 : ((bt x0_9 x4_3) != 46) = false := bne_eq_false_iff_eq.mpr c22
                        clear c22
                        have H' := Aside0.mk H
                        clear H
                        have p18 : 0 ≤ (x4_3 : Int) := of_decide_eq_true (by first | (with_reducible assumption) | assumption)
                        have q18 : x4_3 < (x0_9.size : Int) := of_decide_eq_true (by first | (with_reducible assumption) | assumption)
                        have hx18 := bt_at x0_9 x4_3
                        replace p18 := eq_true p18
                        replace q18 := eq_true q18
                        go_wp2_with (first | (go_at_call 38; (with_reducible refine (spec_isDigit.calls (bt x0_9 x4_3) false _ A19.out).mono ?_); rintro e w' ⟨rfl, ⟨nd, rfl⟩⟩; have p21 : 0 ≤ (x4_3 : Int) := of_decide_eq_true (by first | (with_reducible assumption) | assumption); have q21 : x4_3 < (x0_9.size : Int) := of_decide_eq_true (by first | (with_reducible assumption) | assumption); have hx21 := bt_at x0_9 x4_3; replace p21 := eq_true p21; replace q21 := eq_true q21))
                        go_roundg k3
                        case measure => have := HJ1.out; have := HJ9.out; have := HK3.out; omega
                        case rel => exact ⟨(wrap64 (x4_3 + 1)), (by first | rfl | (simp; done) | (simp [*]; done) | (simp [bne_nil_]; done)), H', ⟨by have := HJ1.out; have := HJ9.out; have := HK3.out; omega⟩, ⟨by (with_reducible repeat (first | refine blk_drewN ?_ _ | refine blk_drew ?_ | refine blk_alloc ?_ _)); exact BK114.out⟩, ⟨by (with_reducible repeat (first | refine blk_drewN ?_ _ | refine blk_drew ?_ | refine blk_alloc ?_ _)); exact BK115.out⟩, ⟨by repeat (first | (with_reducible first | exact HB.out | apply below_alloc | apply pw_below_drewN | apply below_drew1 | refine below_set ?_ GE114.out | refine below_set ?_ GE115.out) | exact HB.out)⟩⟩
                      · rw [if_neg c22] at H
                        have c22b0 : ((bt x0_9 x4_3) == 46) = false := beq_eq_false_iff_ne.mpr c22
                        have c22b1 : ((bt x0_9 x4_3) != 46) = true := bne_iff_ne.mpr c22
                        have H' := Aside0.mk H
                        clear H
                        have p18 : 0 ≤ (x4_3 : Int) := of_decide_eq_true (by first | (with_reducible assumption) | assumption)
                        have q18 : x4_3 < (x0_9.size : Int) := of_decide_eq_true (by first | (with_reducible assumption) | assumption)
                        have hx18 := bt_at x0_9 x4_3
                        replace p18 := eq_true p18
                        replace q18 := eq_true q18
                        go_wp2_with (first | (go_at_call 38; (with_reducible refine (spec_isDigit.calls (bt x0_9 x4_3) false _ A19.out).mono ?_); rintro e w' ⟨rfl, ⟨nd, rfl⟩⟩; have p21 : 0 ≤ (x4_3 : Int) := of_decide_eq_true (by first | (with_reducible assumption) | assumption); have q21 : x4_3 < (x0_9.size : Int) := of_decide_eq_true (by first | (with_reducible assumption) | assumption); have hx21 := bt_at x0_9 x4_3; replace p21 := eq_true p21; replace q21 := eq_true q21))
                        go_meet
                        case rel => exact ⟨_, (x4_3), (by first | rfl | (simp; done) | (simp [*]; done) | (simp [bne_nil_]; done)), H', ⟨by have := HJ1.out; have := HJ9.out; have := HK3.out; first | omega | exact Nat.le_refl _⟩, ⟨by (with_reducible repeat (first | refine blk_drewN ?_ _ | refine blk_drew ?_ | refine blk_alloc ?_ _)); exact BK114.out⟩, ⟨by (with_reducible repeat (first | refine blk_drewN ?_ _ | refine blk_drew ?_ | refine blk_alloc ?_ _)); exact BK115.out⟩, ⟨by repeat (first | (with_reducible first | exact HB.out | apply below_alloc | apply pw_below_drewN | apply below_drew1 | refine below_set ?_ GE114.out | refine below_set ?_ GE115.out) | exact HB.out)⟩⟩
                  · rw [if_neg c17] at H
                    exact absurd H (by simp)
                · rw [if_neg c16] at H
                  have c16b0 : decide (x4_3 < (x0_9.size : Int)) = false := decide_eq_false c16
                  clear c16
                  (first | rw [c16b0] | (simp only [i64_w, i32_w]; rw [c16b0]) | skip)
                  have H' := Aside0.mk H
                  clear H
                  go_wp2
                  go_meet
                  case rel => exact ⟨_, (x4_3), (by first | rfl | (simp; done) | (simp [*]; done) | (simp [bne_nil_]; done)), H', ⟨by have := HJ1.out; have := HJ9.out; have := HK3.out; first | omega | exact Nat.le_refl _⟩, ⟨by (with_reducible repeat (first | refine blk_drewN ?_ _ | refine blk_drew ?_ | refine blk_alloc ?_ _)); exact BK114.out⟩, ⟨by (with_reducible repeat (first | refine blk_drewN ?_ _ | refine blk_drew ?_ | refine blk_alloc ?_ _)); exact BK115.out⟩, ⟨by repeat (first | (with_reducible first | exact HB.out | apply below_alloc | apply pw_below_drewN | apply below_drew1 | refine below_set ?_ GE114.out | refine below_set ?_ GE115.out) | exact HB.out)⟩⟩
          case rest =>
            clear HC15
            try clear c1
            try clear p1
            try clear q1
            try clear hx1
            try clear c2
            try clear p2
            try clear q2
            try clear hx2
            try clear c5
            try clear p6
            try clear c7
            try clear c7b0
            try clear c7b1
            try clear c8
            try clear c8b0
            try clear c8b1
            try clear p9
            try clear q9
            try clear hx9
            try clear qi9
            try clear c11
            try clear c12
            try clear c12b0
            try clear c12b1
            try clear c16
            try clear c16b0
            try clear c17
            try clear c17b0
            try clear p18
            try clear q18
            try clear hx18
            try clear c19
            try clear c20
            try clear p21
            try clear q21
            try clear hx21
            try clear c22
            try clear c22b0
            try clear c22b1
            try clear hcz6_0
            try clear hcz6_1
            try clear hcz6_2
            try clear hcz6_3
            try clear hfz6_0
            try clear hfz6_1
            try clear hfz6_2
            try clear hfz6_3
            try clear p18
            try clear p2
            try clear p21
            try clear p9
            try clear q18
            try clear q21
            try clear q9
            obtain ⟨kq, x4_14, rfl, HA, HJ14, BK114, BK115, HB⟩ := hcut
            cases kq with
            | zero => exact absurd HA.out (by simp [spec_LikeParse.j3])
            | succ kj14 =>
              have H := HA.out
              clear HA
              simp only [spec_LikeParse.j3] at H
              by_cases c23 : 0 ≤ x4_14
              · rw [if_pos c23] at H
                have c23b0 := eq_true c23
                have c23b1 : decide (0 ≤ x4_14) = true := decide_eq_true c23
                clear c23
                by_cases c24 : x4_14 ≤ (x0_9.size : Int)
                · rw [if_pos c24] at H
                  have c24b0 := eq_true c24
                  have c24b1 : decide (x4_14 ≤ (x0_9.size : Int)) = true := decide_eq_true c24
                  clear c24
                  replace H := Option.bind_eq_some_iff.mp H
                  obtain ⟨t117, A250, H⟩ := H
                  replace H : (spec_LikeParse.l1 kj14 x0_9 x4_14 t117 0 x116000_9 ([] : List (S64)) (⟨#[]⟩ : ByteArray) a0) = some (r1, r2, r3, r4) := H
                  have A25 := Aside0.mk A250
                  clear A250
                  have H' := Aside0.mk H
                  clear H
                  go_wp2_with (first | ((with_reducible refine gate_callee (f := 39) rfl ?_); refine goesL_ (some 40) rfl rfl Tryz.func39 (by kernel_rfl) rfl #[.string (x0_9.extract 0 (x4_14 : Int).toNat), .func (.func 40) #[] #[]] rfl (by (try simp only [List.map_toArray, List.map_cons, List.map_nil]); first | done | rfl | (simp only [List.length_drop, List.length_take]; rfl)) ?_; (with_reducible refine (Giv.spec_cut_isPoint.calls (x0_9.extract 0 (x4_14 : Int).toNat) t117 _ A25.out).mono ?_); rintro e w26 ⟨v118, rfl, ho0, hb⟩; refine ⟨_, rfl, ?_⟩; have n0_ := Aside0.mk (Kd.R_lower ho0 (below_size (by repeat (first | (with_reducible first | exact HB.out | apply below_alloc | apply pw_below_drewN | apply below_drew1 | refine below_set ?_ GE114.out | refine below_set ?_ GE115.out) | exact HB.out)))); have n1_ := Aside0.mk (blk_below (g := gb114) (o := .cells #[.bool false, .slice none 0 0, .string (⟨#[]⟩ : ByteArray), .string (⟨#[]⟩ : ByteArray)] 37 (0, 0)) (by (with_reducible repeat (first | refine blk_drewN ?_ _ | refine blk_drew ?_ | refine blk_alloc ?_ _)); exact BK114.out) hb); have n2_ := Aside0.mk (blk_below (g := gb115) (o := .cells #[.bool x116000_9, .slice none 0 0, .string (⟨#[]⟩ : ByteArray), .string a0] 37 (0, 0)) (by (with_reducible repeat (first | refine blk_drewN ?_ _ | refine blk_drew ?_ | refine blk_alloc ?_ _)); exact BK115.out) hb); have n3_ := Aside0.mk (below_step (by repeat (first | (with_reducible first | exact HB.out | apply below_alloc | apply pw_below_drewN | apply below_drew1 | refine below_set ?_ GE114.out | refine below_set ?_ GE115.out) | exact HB.out)) hb); clear BK114; clear BK115; clear HB; have HO119 := n0_; have BK114 := n1_; have BK115 := n2_; have HB := n3_; clear n0_ n1_ n2_ n3_; (try clear hb); (try clear hb2); (try clear hk); (try clear hi); (try clear ho0)))
                  go_loopg [6] kj14 (fun kq v6 w' => ∃ (x6_4 : Int) (x116001_4 : List (S64)) (u116001 : Value), v6 = .int .i64 x6_4 ∧ Aside0 (spec_LikeParse.l1 kq x0_9 x4_14 t117 x6_4 x116000_9 x116001_4 (⟨#[]⟩ : ByteArray) a0 = some (r1, r2, r3, r4)) ∧ Aside0 (kq ≤ kj14) ∧ Aside0 (Kd.R Kd.string 9 w' w.heap.size (fun _ => True) v118 t117) ∧ Aside0 (Kd.R k64 64 w' w.heap.size (fun _ => True) u116001 x116001_4) ∧ Aside0 (w'.heap[gb114]? = some (.cells #[.bool false, (.slice none 0 0), .string (⟨#[]⟩ : ByteArray), .string (⟨#[]⟩ : ByteArray)] 37 (0, 0))) ∧ Aside0 (w'.heap[gb115]? = some (.cells #[.bool x116000_9, u116001, .string (⟨#[]⟩ : ByteArray), .string a0] 37 (0, 0))) ∧ Aside0 (Below w.heap.size w w'))
                  case atStart => exact ⟨(0), (([] : List (S64))), (.slice none 0 0), (by first | rfl | (simp; done) | (simp [*]; done) | (simp [bne_nil_]; done)), H', ⟨Nat.le_refl _⟩, ⟨by (with_reducible repeat (first | apply Kd.R_alloc | apply Kd.R_drewN | apply Kd.R_drew)); exact HO119.out⟩, ⟨by first | exact Kd.R_nil _ _ _ _ _ | exact Kd.N_nil _ _ _ _ _ | exact Kd.V_nil _ _ _ _ _ | exact Kd.Q_nil _ _ _ _ _ | exact Kd.S_nil _ _ _ _ _⟩, ⟨by (with_reducible repeat (first | refine blk_drewN ?_ _ | refine blk_drew ?_ | refine blk_alloc ?_ _)); exact BK114.out⟩, ⟨by (with_reducible repeat (first | refine blk_drewN ?_ _ | refine blk_drew ?_ | refine blk_alloc ?_ _)); exact BK115.out⟩, ⟨by repeat (first | (with_reducible first | exact HB.out | apply below_alloc | apply pw_below_drewN | apply below_drew1 | refine below_set ?_ GE114.out | refine below_set ?_ GE115.out) | exact HB.out)⟩⟩
                  case round =>
                    clear H'
                    try clear c1
                    try clear p1
                    try clear q1
                    try clear hx1
                    try clear c2
                    try clear p2
                    try clear q2
                    try clear hx2
                    try clear c3
                    try clear c5
                    try clear p6
                    try clear c7
                    try clear c7b0
                    try clear c7b1
                    try clear c8
                    try clear c8b0
                    try clear c8b1
                    try clear p9
                    try clear q9
                    try clear hx9
                    try clear qi9
                    try clear c11
                    try clear c12
                    try clear c12b0
                    try clear c12b1
                    try clear c16
                    try clear c16b0
                    try clear c17
                    try clear c17b0
                    try clear p18
                    try clear q18
                    try clear hx18
                    try clear c19
                    try clear c20
                    try clear p21
                    try clear q21
                    try clear hx21
                    try clear c22
                    try clear c22b0
                    try clear c22b1
                    try clear c23
                    try clear c23b0
                    try clear c23b1
                    try clear c24
                    try clear c24b0
                    try clear c24b1
                    try clear hcz6_0
                    try clear hcz6_1
                    try clear hcz6_2
                    try clear hcz6_3
                    try clear hfz6_0
                    try clear hfz6_1
                    try clear hfz6_2
                    try clear hfz6_3
                    try clear p1
                    try clear p18
                    try clear p2
                    try clear p21
                    try clear p6
                    try clear p9
                    try clear q1
                    try clear q18
                    try clear q2
                    try clear q21
                    try clear q9
                    obtain ⟨x6_4, x116001_4, u116001, rfl, HA, HK4, HO_5, HO_116001, BK114, BK115, HB⟩ := hrel
                    cases gk with
                    | zero => exact absurd HA.out (by simp [spec_LikeParse.l1])
                    | succ k4 =>
                      have H := HA.out
                      clear HA
                      simp only [spec_LikeParse.l1] at H
                      by_cases c27 : x6_4 < (t117.length : Int)
                      · rw [if_pos c27] at H
                        have c27b0 : decide (x6_4 < (t117.length : Int)) = true := decide_eq_true c27
                        clear c27
                        by_cases c28 : 0 ≤ x6_4
                        · rw [if_pos c28] at H
                          have c28b0 : decide (0 ≤ x6_4) = true := decide_eq_true c28
                          clear c28
                          by_cases c29 : (rdOf ByteArray.empty t117 x6_4).toList = ([] : List UInt8)
                          · rw [if_pos c29] at H
                            have c29b0 : ((rdOf ByteArray.empty t117 x6_4).toList == ([] : List UInt8)) = true := beq_iff_eq.mpr c29
                            have c29b1 : ((rdOf ByteArray.empty t117 x6_4).toList != ([] : List UInt8)) = false := bne_eq_false_iff_eq.mpr c29
                            clear c29
                            have H' := Aside0.mk H
                            clear H
                            obtain ⟨Ao30, co30, eo30⟩ := Kd.R_slice HO_5.out
                            subst eo30
                            have p120 : 0 ≤ (x6_4 : Int) := of_decide_eq_true (by first | (with_reducible assumption) | assumption)
                            have q120 : x6_4 < (t117.length : Int) := of_decide_eq_true (by first | (with_reducible assumption) | assumption)
                            obtain ⟨ad120, e120, hx120_0⟩ := Kd.at_string (Kd.R_reads' HO_5.out).2.2 x6_4 p120 q120
                            cases e120
                            replace p120 := eq_true p120
                            replace q120 := eq_true q120
                            go_wp2
                            go_roundg k4
                            case measure => have := HJ1.out; have := HJ9.out; have := HJ14.out; have := HK4.out; omega
                            case rel => exact ⟨(wrap64 (x6_4 + 1)), (x116001_4), (u116001), (by first | rfl | (simp; done) | (simp [*]; done) | (simp [bne_nil_]; done)), H', ⟨by have := HJ1.out; have := HJ9.out; have := HJ14.out; have := HK4.out; omega⟩, ⟨by (with_reducible repeat (first | apply Kd.R_alloc | apply Kd.R_drewN | apply Kd.R_drew)); exact HO_5.out⟩, ⟨by (with_reducible repeat (first | apply Kd.R_alloc | apply Kd.R_drewN | apply Kd.R_drew)); exact HO_116001.out⟩, ⟨by (with_reducible repeat (first | refine blk_drewN ?_ _ | refine blk_drew ?_ | refine blk_alloc ?_ _)); exact BK114.out⟩, ⟨by (with_reducible repeat (first | refine blk_drewN ?_ _ | refine blk_drew ?_ | refine blk_alloc ?_ _)); exact BK115.out⟩, ⟨by repeat (first | (with_reducible first | exact HB.out | apply below_alloc | apply pw_below_drewN | apply below_drew1 | refine below_set ?_ GE114.out | refine below_set ?_ GE115.out) | exact HB.out)⟩⟩
                          · rw [if_neg c29] at H
                            have c29b0 : ((rdOf ByteArray.empty t117 x6_4).toList == ([] : List UInt8)) = false := beq_eq_false_iff_ne.mpr c29
                            have c29b1 : ((rdOf ByteArray.empty t117 x6_4).toList != ([] : List UInt8)) = true := bne_iff_ne.mpr c29
                            replace H := Option.bind_eq_some_iff.mp H
                            obtain ⟨⟨t122, t123⟩, A310, H⟩ := H
                            replace H : (if x116001_4.length < 5864062014805 then (spec_LikeParse.l1 k4 x0_9 x4_14 t117 (wrap64 (x6_4 + 1)) x116000_9 (x116001_4 ++ [(⟨t122, t123⟩ : S64)]) (⟨#[]⟩ : ByteArray) a0) else (none)) = some (r1, r2, r3, r4) := H
                            have A31 := Aside0.mk A310
                            clear A310
                            by_cases c32 : x116001_4.length < 5864062014805
                            · rw [if_pos c32] at H
                              have LMc32 := Aside0.mk c32
                              clear c32
                              obtain ⟨y124, hy124⟩ : ∃ y_ : List (S64), y_ = (x116001_4 ++ [(⟨t122, t123⟩ : S64)]) := ⟨_, rfl⟩
                              replace H : (spec_LikeParse.l1 k4 x0_9 x4_14 t117 (wrap64 (x6_4 + 1)) x116000_9 y124 (⟨#[]⟩ : ByteArray) a0) = some (r1, r2, r3, r4) := by first | (rw [hy124]; with_reducible exact H) | (have H2_ := (Option.bind_some _ _).symm.trans H; rw [hy124]; with_reducible exact H2_) | (have H2_ := (Option.bind_some _ _).symm.trans H; with_reducible exact H2_) | with_reducible exact H | (rw [hy124]; exact H) | exact H
                              have Ny124 := Aside0.mk hy124
                              clear hy124
                              have H' := Aside0.mk H
                              clear H
                              obtain ⟨Ao33, co33, eo33⟩ := Kd.R_slice HO_5.out
                              subst eo33
                              have p120 : 0 ≤ (x6_4 : Int) := of_decide_eq_true (by first | (with_reducible assumption) | assumption)
                              have q120 : x6_4 < (t117.length : Int) := of_decide_eq_true (by first | (with_reducible assumption) | assumption)
                              obtain ⟨ad120, e120, hx120_0⟩ := Kd.at_string (Kd.R_reads' HO_5.out).2.2 x6_4 p120 q120
                              cases e120
                              replace p120 := eq_true p120
                              replace q120 := eq_true q120
                              try go_wp2
                              have n0_ := Aside0.mk (Kd.R_drew HO_5.out)
                              have n1_ := Aside0.mk (Kd.R_drew HO_116001.out)
                              have n2_ := Aside0.mk (blk_drew BK114.out)
                              have n3_ := Aside0.mk (blk_drew BK115.out)
                              have n4_ := Aside0.mk (below_drew1 HB.out)
                              clear HO_5
                              clear HO_116001
                              clear BK114
                              clear BK115
                              clear HB
                              have HO_5 := n0_
                              have HO_116001 := n1_
                              have BK114 := n2_
                              have BK115 := n3_
                              have HB := n4_
                              clear n0_ n1_ n2_ n3_ n4_
                              have p121 : 0 ≤ (x6_4 : Int) := of_decide_eq_true (by first | (with_reducible assumption) | assumption)
                              have q121 : x6_4 < (t117.length : Int) := of_decide_eq_true (by first | (with_reducible assumption) | assumption)
                              obtain ⟨ad121, e121, hx121_0⟩ := Kd.at_string (Kd.R_reads' HO_5.out).2.2 x6_4 p121 q121
                              obtain rfl : ad120 = ad121 := (by injection e121)
                              replace p121 := eq_true p121
                              replace q121 := eq_true q121
                              refine start_ (n := 11) (S := fun w' => w'.cell? ⟨gb115, 0, none⟩ = some (.bool x116000_9) ∧ w'.cell? ⟨gb115, 1, none⟩ = some (u116001) ∧ w'.cell? ⟨gb115, 2, none⟩ = some (.string (⟨#[]⟩ : ByteArray)) ∧ w'.cell? ⟨gb115, 3, none⟩ = some (.string a0) ∧ w'.cell? (ad120.add (x6_4).toNat) = some (.string (rdOf ByteArray.empty t117 x6_4))) (ds := [8, 10]) #[false, false, false, false, false, false, false, false, false, false, false] (by kernel_rfl) rfl rfl ⟨(blk_cell BK115.out 0).trans rfl, (blk_cell BK115.out 1).trans rfl, (blk_cell BK115.out 2).trans rfl, (blk_cell BK115.out 3).trans rfl, hx121_0⟩ (fun hHeld => ?_); refine with_tabW spec_LikeParse.tab12 spec_LikeParse.bits12 (fun HT_ HW_ => ?_)
                              generalize wr.drew = w34 at HO_5 HO_116001 BK114 BK115 HB hx121_0 hHeld ⊢
                              refine pure_ (i := 0) (N := some 52) (v := ?_) (a' := ?_) #[true, false, false, false, false, false, false, false, false, false, false] rfl rfl (any_of HT_.out (by kernel_rfl)) (fun _ _ _ h => h) (Or.inl ⟨by rfl, ?_⟩) ?_ ?_
                              rotate_left
                              · intro w'
                                go_simp
                                with_reducible rfl
                              rotate_left
                              · simp only [Act.put, List.setIfInBounds_toArray, List.set_cons_zero, List.set_cons_succ, i64_w, i32_w]
                                rfl
                              refine pure_ (i := 2) (N := some 54) (v := ?_) (a' := ?_) #[true, false, true, false, false, false, false, false, false, false, false] rfl rfl (any_of HT_.out (by kernel_rfl)) (fun _ _ _ h => h) (Or.inl ⟨by rfl, ?_⟩) ?_ ?_
                              rotate_left
                              · intro w'
                                go_simp
                                with_reducible rfl
                              rotate_left
                              · simp only [Act.put, List.setIfInBounds_toArray, List.set_cons_zero, List.set_cons_succ, i64_w, i32_w]
                                rfl
                              refine pure_ (i := 3) (N := some 55) (v := ?_) (a' := ?_) #[true, false, true, true, false, false, false, false, false, false, false] rfl rfl (any_of HT_.out (by kernel_rfl)) (fun _ _ _ h => h) (Or.inl ⟨by rfl, ?_⟩) ?_ ?_
                              rotate_left
                              · intro w'
                                go_simp
                                with_reducible rfl
                              rotate_left
                              · simp only [Act.put, List.setIfInBounds_toArray, List.set_cons_zero, List.set_cons_succ, i64_w, i32_w]
                                rfl
                              refine pure_ (i := 4) (N := some 56) (v := ?_) (a' := ?_) #[true, false, true, true, true, false, false, false, false, false, false] rfl rfl (any_of HT_.out (by kernel_rfl)) (fun _ _ _ h => h) (Or.inl ⟨by rfl, ?_⟩) ?_ ?_
                              rotate_left
                              · intro w'
                                go_simp
                                with_reducible rfl
                              rotate_left
                              · simp only [Act.put, List.setIfInBounds_toArray, List.set_cons_zero, List.set_cons_succ, i64_w, i32_w]
                                rfl
                              refine take_ (i := 1) (N := some 53) (v := ?_) (a' := ?_) #[true, true, true, true, true, false, false, false, false, false, false] rfl rfl (take_ofW HT_.out HW_.out (by kernel_rfl)) (fun _ _ _ h => h) (Or.inl ⟨by rfl, ?_⟩) hHeld ?_ ?_
                              rotate_left
                              · rintro w' ⟨s0, s1, s2, s3, s4⟩
                                go_simp
                                with_reducible rfl
                              rotate_left
                              · simp only [Act.put, List.setIfInBounds_toArray, List.set_cons_zero, List.set_cons_succ, i64_w, i32_w]
                                rfl
                              refine take_ (i := 5) (N := some 57) (v := ?_) (a' := ?_) #[true, true, true, true, true, true, false, false, false, false, false] rfl rfl (take_ofW HT_.out HW_.out (by kernel_rfl)) (fun _ _ _ h => h) (Or.inl ⟨by rfl, ?_⟩) hHeld ?_ ?_
                              rotate_left
                              · rintro w' ⟨s0, s1, s2, s3, s4⟩
                                go_simp
                                with_reducible rfl
                              rotate_left
                              · simp only [Act.put, List.setIfInBounds_toArray, List.set_cons_zero, List.set_cons_succ, i64_w, i32_w]
                                rfl
                              refine one_ (i := 6) (N := some 58) #[true, true, true, true, true, true, true, false, false, false, false] rfl rfl (one_of HT_.out (by kernel_rfl)) (by decide) (fun K hK => ?_)
                              refine goes_ Tryz.func41 (by kernel_rfl) rfl #[.string (rdOf ByteArray.empty t117 x6_4)] (by rfl) rfl rfl (by (try simp only [List.map_toArray, List.map_cons, List.map_nil]); first | done | rfl | (simp only [List.length_drop, List.length_take]; rfl)) ?_
                              with_reducible refine (spec_intOf.calls k4 (rdOf ByteArray.empty t117 x6_4) t122 t123 _ A31.out).mono ?_
                              rintro e w35 ⟨rfl, hb⟩
                              have HS4_ := (hb.cell (World.block_lt_of_cell? _ _ (hHeld.2.2.2.2))).trans (hHeld.2.2.2.2)
                              refine ⟨_, rfl, ?_⟩
                              have n0_ := Aside0.mk (Kd.R_below (by (with_reducible repeat (first | apply Kd.R_alloc | apply Kd.R_drewN | apply Kd.R_drew)); exact HO_5.out) hb)
                              have n1_ := Aside0.mk (Kd.R_below (by (with_reducible repeat (first | apply Kd.R_alloc | apply Kd.R_drewN | apply Kd.R_drew)); exact HO_116001.out) hb)
                              have n2_ := Aside0.mk (blk_below (g := gb114) (o := .cells #[.bool false, .slice none 0 0, .string (⟨#[]⟩ : ByteArray), .string (⟨#[]⟩ : ByteArray)] 37 (0, 0)) (by (with_reducible repeat (first | refine blk_drewN ?_ _ | refine blk_drew ?_ | refine blk_alloc ?_ _)); exact BK114.out) hb)
                              have n3_ := Aside0.mk (blk_below (g := gb115) (o := .cells #[.bool x116000_9, u116001, .string (⟨#[]⟩ : ByteArray), .string a0] 37 (0, 0)) (by (with_reducible repeat (first | refine blk_drewN ?_ _ | refine blk_drew ?_ | refine blk_alloc ?_ _)); exact BK115.out) hb)
                              have n4_ := Aside0.mk (below_step (by repeat (first | (with_reducible first | exact HB.out | apply below_alloc | apply pw_below_drewN | apply below_drew1 | refine below_set ?_ GE114.out | refine below_set ?_ GE115.out) | exact HB.out)) hb)
                              clear HO_5
                              clear HO_116001
                              clear BK114
                              clear BK115
                              clear HB
                              have HO_5 := n0_
                              have HO_116001 := n1_
                              have BK114 := n2_
                              have BK115 := n3_
                              have HB := n4_
                              clear n0_ n1_ n2_ n3_ n4_
                              (try clear hb)
                              (try clear hb2)
                              (try clear hk)
                              (try clear hi)
                              refine hK.out _ _ ⟨(blk_cell BK115.out 0).trans rfl, (blk_cell BK115.out 1).trans rfl, (blk_cell BK115.out 2).trans rfl, (blk_cell BK115.out 3).trans rfl, HS4_⟩ (fun hHeld => ?_)
                              clear hK K
                              refine norm_ (a' := ?_) ?_ ?_
                              rotate_left
                              · show Act.put _ (some 58) _ = _
                                simp only [Act.put, List.setIfInBounds_toArray, List.set_cons_zero, List.set_cons_succ, i64_w, i32_w]
                                rfl
                              refine one_ (i := 7) (N := some 59) #[true, true, true, true, true, true, true, true, false, false, false] rfl rfl (one_of HT_.out (by kernel_rfl)) (by decide) (fun K hK => ?_)
                              refine value_ (w1 := ?_) (v := ?_) (by rfl) rfl ?_ ?_
                              rotate_left 2
                              · go_simp
                                constructor
                                · rfl
                                · rfl
                              refine hK.out _ _ ⟨(blk_cell (blk_alloc BK115.out _) 0).trans rfl, (blk_cell (blk_alloc BK115.out _) 1).trans rfl, (blk_cell (blk_alloc BK115.out _) 2).trans rfl, (blk_cell (blk_alloc BK115.out _) 3).trans rfl, (World.cell?_alloc_lt _ _ _ (World.block_lt_of_cell? _ _ (hHeld.2.2.2.2))).trans (hHeld.2.2.2.2)⟩ (fun hHeld => ?_)
                              clear hK K
                              refine norm_ (a' := ?_) ?_ ?_
                              rotate_left
                              · show Act.put _ (some 59) _ = _
                                simp only [Act.put, List.setIfInBounds_toArray, List.set_cons_zero, List.set_cons_succ, i64_w, i32_w]
                                rfl
                              refine last_ (i := 8) (N := some 60) #[true, true, true, true, true, true, true, true, true, false, false] rfl rfl (one_of HT_.out (by kernel_rfl)) (by decide) (fun K hK => ?_)
                              refine Kd.R_append_step k64 (w0 := w) w.heap.size (by rfl) (.tmp 53) (.tmp 59) 35 64 (.agg #[(.bool false), (.string ⟨#[]⟩)]) 24 rfl Tryz.underlying35 info64 rfl (by decide) (by omega) u116001 x116001_4 (⟨t122, t123⟩ : S64) [.bool t122, .string t123] (fun _ => True) (fun _ => False) rfl rfl ?aP (fun _ hk => hk.elim) ?aF ?aO ?aB ?aS ?aL ?_
                              (case aP => exact k64_mkM _ _ _ (⟨t122, t123⟩ : S64))
                              (case aB => exact (by repeat (first | (with_reducible first | exact HB.out | apply below_alloc | apply pw_below_drewN | apply below_drew1 | refine below_set ?_ GE114.out | refine below_set ?_ GE115.out) | exact HB.out)))
                              (case aF => exact (fun _ _ => trivial))
                              (case aO => exact (by (with_reducible repeat (first | apply Kd.R_alloc | apply Kd.R_drewN | apply Kd.R_drew)); exact HO_116001.out))
                              (case aS => exact (below_size (by repeat (first | (with_reducible first | exact HB.out | apply below_alloc | apply pw_below_drewN | apply below_drew1 | refine below_set ?_ GE114.out | refine below_set ?_ GE115.out) | exact HB.out))))
                              (case aL => have := LMc32.out; omega)
                              intro v125 w36 ho hb hg hat
                              rw [← Ny124.out] at ho
                              have n0_ := Aside0.mk (Kd.R_over' (by (with_reducible repeat (first | apply Kd.R_alloc | apply Kd.R_drewN | apply Kd.R_drew)); exact HO_5.out) (Kd.R_typed (by (with_reducible repeat (first | apply Kd.R_alloc | apply Kd.R_drewN | apply Kd.R_drew)); exact HO_116001.out)) (by decide) hg)
                              have n1_ := Aside0.mk (blk_grown (g := gb114) (o := .cells #[.bool false, .slice none 0 0, .string (⟨#[]⟩ : ByteArray), .string (⟨#[]⟩ : ByteArray)] 37 (0, 0)) (by (with_reducible repeat (first | refine blk_drewN ?_ _ | refine blk_drew ?_ | refine blk_alloc ?_ _)); exact BK114.out) hg (Kd.R_ne HO_116001.out BK114.out (by decide)))
                              have n2_ := Aside0.mk (blk_grown (g := gb115) (o := .cells #[.bool x116000_9, u116001, .string (⟨#[]⟩ : ByteArray), .string a0] 37 (0, 0)) (by (with_reducible repeat (first | refine blk_drewN ?_ _ | refine blk_drew ?_ | refine blk_alloc ?_ _)); exact BK115.out) hg (Kd.R_ne HO_116001.out BK115.out (by decide)))
                              have n3_ := Aside0.mk (hb)
                              have n4_ := Aside0.mk (ho)
                              clear HO_5
                              clear BK114
                              clear BK115
                              clear HB
                              clear HO_116001
                              have HO_5 := n0_
                              have BK114 := n1_
                              have BK115 := n2_
                              have HB := n3_
                              have HO126 := n4_
                              clear n0_ n1_ n2_ n3_ n4_
                              clear ho hb hg hat
                              obtain ⟨Ao37, co37, eo37⟩ := Kd.R_slice HO126.out
                              (first | subst eo37 | (injection eo37 with f1_ f2_ f3_; have f4_ := f1_.symm; have f5_ := f3_.symm; clear f1_ f2_ f3_; subst f4_; subst f5_))
                              refine hK.out _ _ ?_
                              clear hK K
                              refine norm_ (a' := ?_) ?_ ?_
                              rotate_left
                              · show Act.put _ (some 60) _ = _
                                simp only [Act.put, List.setIfInBounds_toArray, List.set_cons_zero, List.set_cons_succ, i64_w, i32_w]
                                rfl
                              refine pure_ (i := 9) (N := some 61) (v := ?_) (a' := ?_) #[true, true, true, true, true, true, true, true, true, true, false] rfl rfl (any_of HT_.out (by kernel_rfl)) (fun _ _ _ h => h) (Or.inl ⟨by rfl, ?_⟩) ?_ ?_
                              rotate_left
                              · intro w'
                                go_simp
                                with_reducible rfl
                              rotate_left
                              · simp only [Act.put, List.setIfInBounds_toArray, List.set_cons_zero, List.set_cons_succ, i64_w, i32_w]
                                rfl
                              refine last_ (i := 10) (N := none) #[true, true, true, true, true, true, true, true, true, true, true] rfl rfl (one_of HT_.out (by kernel_rfl)) (by decide) (fun K hK => ?_)
                              have hs38 : w36.cell? ⟨gb115, 1, none⟩ = some (u116001) := (blk_cell BK115.out 1).trans rfl
                              have hfs38 := blk_frozen BK115.out 1
                              have hns38_0 := NB114_115.out
                              have hms38_0 := NB115_114.out
                              refine skip_ (w1 := ?_) (by rfl) rfl ?_ ?_
                              rotate_left
                              · go_simp
                                rfl
                              refine hK.out _ _ ?_
                              clear hK K
                              refine done_ (done_of HT_.out (by kernel_rfl)) ?_
                              try go_wp2
                              go_roundg k4
                              case measure => have := HJ1.out; have := HJ9.out; have := HJ14.out; have := HK4.out; omega
                              case rel => exact ⟨(wrap64 (x6_4 + 1)), (y124), (.slice Ao37 y124.length co37), (by first | rfl | (simp; done) | (simp [*]; done) | (simp [bne_nil_]; done)), H', ⟨by have := HJ1.out; have := HJ9.out; have := HJ14.out; have := HK4.out; omega⟩, ⟨by (with_reducible repeat (first | apply Kd.R_alloc | apply Kd.R_drewN | apply Kd.R_drew)); exact Kd.R_mono (Kd.R_far (p := ⟨gb115, 1, none⟩) (Kd.R_types HO_5.out BK115.out (by decide)) (fun _ hk => hk.2) (.slice Ao37 y124.length co37)) (fun _ hk => trivial)⟩, ⟨by (with_reducible repeat (first | apply Kd.R_alloc | apply Kd.R_drewN | apply Kd.R_drew)); exact Kd.R_mono (Kd.R_far (p := ⟨gb115, 1, none⟩) (Kd.R_types HO126.out BK115.out (by decide)) (fun _ hk => hk.2) (.slice Ao37 y124.length co37)) (fun _ hk => trivial)⟩, ⟨by (with_reducible repeat (first | refine blk_drewN ?_ _ | refine blk_drew ?_ | refine blk_alloc ?_ _)); refine blk_far ?_ NB114_115.out _; (with_reducible repeat (first | refine blk_drewN ?_ _ | refine blk_drew ?_ | refine blk_alloc ?_ _)); exact BK114.out⟩, ⟨by (with_reducible repeat (first | refine blk_drewN ?_ _ | refine blk_drew ?_ | refine blk_alloc ?_ _)); refine blk_put (cs := #[.bool x116000_9, u116001, .string (⟨#[]⟩ : ByteArray), .string a0]) ?_ 1 _ rfl; (with_reducible repeat (first | refine blk_drewN ?_ _ | refine blk_drew ?_ | refine blk_alloc ?_ _)); exact BK115.out⟩, ⟨by repeat (first | (with_reducible first | exact HB.out | apply below_alloc | apply pw_below_drewN | apply below_drew1 | refine below_set ?_ GE114.out | refine below_set ?_ GE115.out) | exact HB.out)⟩⟩
                            · rw [if_neg c32] at H
                              exact absurd H (by simp)
                        · rw [if_neg c28] at H
                          exact absurd H (by simp)
                      · rw [if_neg c27] at H
                        have c27b0 : decide (x6_4 < (t117.length : Int)) = false := decide_eq_false c27
                        clear c27
                        by_cases c39 : 0 ≤ x4_14
                        · rw [if_pos c39] at H
                          have c39b0 := eq_true c39
                          have c39b1 : decide (0 ≤ x4_14) = true := decide_eq_true c39
                          clear c39
                          by_cases c40 : x4_14 ≤ (x0_9.size : Int)
                          · rw [if_pos c40] at H
                            have c40b0 := eq_true c40
                            have c40b1 : decide (x4_14 ≤ (x0_9.size : Int)) = true := decide_eq_true c40
                            clear c40
                            simp only [Option.some.injEq, Prod.mk.injEq] at H
                            obtain ⟨rfl, rfl, rfl, rfl⟩ := H
                            obtain ⟨Ao41, co41, eo41⟩ := Kd.R_slice HO_5.out
                            subst eo41
                            have hnb42 := NB115_114.out
                            have hnc42 := NB114_115.out
                            have hcz43_0 : wr.cell? ⟨gb115, 0, none⟩ = some (.bool x116000_9) := (blk_cell BK115.out 0).trans rfl
                            have hcz43_1 : wr.cell? ⟨gb115, 1, none⟩ = some (u116001) := (blk_cell BK115.out 1).trans rfl
                            have hcz43_2 : wr.cell? ⟨gb115, 2, none⟩ = some (.string (⟨#[]⟩ : ByteArray)) := (blk_cell BK115.out 2).trans rfl
                            have hcz43_3 : wr.cell? ⟨gb115, 3, none⟩ = some (.string a0) := (blk_cell BK115.out 3).trans rfl
                            have hfz43_0 := blk_frozen BK115.out 0
                            have hfz43_1 := blk_frozen BK115.out 1
                            have hfz43_2 := blk_frozen BK115.out 2
                            have hfz43_3 := blk_frozen BK115.out 3
                            have hcz44_0 : wr.cell? ⟨gb114, 0, none⟩ = some (.bool false) := (blk_cell BK114.out 0).trans rfl
                            have hcz44_1 : wr.cell? ⟨gb114, 1, none⟩ = some (.slice none 0 0) := (blk_cell BK114.out 1).trans rfl
                            have hcz44_2 : wr.cell? ⟨gb114, 2, none⟩ = some (.string (⟨#[]⟩ : ByteArray)) := (blk_cell BK114.out 2).trans rfl
                            have hcz44_3 : wr.cell? ⟨gb114, 3, none⟩ = some (.string (⟨#[]⟩ : ByteArray)) := (blk_cell BK114.out 3).trans rfl
                            have hfz44_0 := blk_frozen BK114.out 0
                            have hfz44_1 := blk_frozen BK114.out 1
                            have hfz44_2 := blk_frozen BK114.out 2
                            have hfz44_3 := blk_frozen BK114.out 3
                            obtain ⟨Ao45, co45, eo45⟩ := Kd.R_slice HO_116001.out
                            subst eo45
                            go_wp2
                            refine bodyPost_ret (results_cell_row rfl _ _ gb114 37 #[.bool x116000_9, .slice Ao45 x116001_4.length co45, .string (x0_9.extract (x4_14 : Int).toNat x0_9.size), .string a0] (0, 0) _ rfl (by (with_reducible repeat (first | refine blk_drewN ?_ _ | refine blk_drew ?_ | refine blk_alloc ?_ _)); refine blk_put (cs := #[.bool x116000_9, .slice Ao45 x116001_4.length co45, .string (x0_9.extract (x4_14 : Int).toNat x0_9.size), .string (⟨#[]⟩ : ByteArray)]) ?_ 3 _ rfl; (with_reducible repeat (first | refine blk_drewN ?_ _ | refine blk_drew ?_ | refine blk_alloc ?_ _)); refine blk_put (cs := #[.bool x116000_9, .slice Ao45 x116001_4.length co45, .string (⟨#[]⟩ : ByteArray), .string (⟨#[]⟩ : ByteArray)]) ?_ 2 _ rfl; (with_reducible repeat (first | refine blk_drewN ?_ _ | refine blk_drew ?_ | refine blk_alloc ?_ _)); refine blk_put (cs := #[.bool x116000_9, .slice none 0 0, .string (⟨#[]⟩ : ByteArray), .string (⟨#[]⟩ : ByteArray)]) ?_ 1 _ rfl; (with_reducible repeat (first | refine blk_drewN ?_ _ | refine blk_drew ?_ | refine blk_alloc ?_ _)); refine blk_put (cs := #[.bool false, .slice none 0 0, .string (⟨#[]⟩ : ByteArray), .string (⟨#[]⟩ : ByteArray)]) ?_ 0 _ rfl; (with_reducible repeat (first | refine blk_drewN ?_ _ | refine blk_drew ?_ | refine blk_alloc ?_ _)); refine blk_far ?_ NB114_115.out _; (with_reducible repeat (first | refine blk_drewN ?_ _ | refine blk_drew ?_ | refine blk_alloc ?_ _)); exact BK114.out) Tryz.underlying37 rfl (by kernel_rfl)) rfl ?_
                            exact ⟨_, by first | rfl | (simp [errW_none, errW_some] <;> rfl) | (simp [*, errW_none, errW_some] <;> rfl) | (simp [bne_nil_]; done), by (with_reducible repeat (first | apply Kd.R_alloc | apply Kd.R_drewN | apply Kd.R_drew)); exact Kd.R_mono (Kd.R_far (p := ⟨gb114, 3, none⟩) (Kd.R_far (p := ⟨gb114, 2, none⟩) (Kd.R_far (p := ⟨gb114, 1, none⟩) (Kd.R_far (p := ⟨gb114, 0, none⟩) (Kd.R_far (p := ⟨gb115, 2, none⟩) (Kd.R_types (Kd.R_types HO_116001.out BK115.out (by decide)) BK114.out (by decide)) (fun _ hk => hk.1.2) (.string (x0_9.extract (x4_14 : Int).toNat x0_9.size))) (fun _ hk => hk.2) (.bool x116000_9)) (fun _ hk => hk.2) (.slice Ao45 x116001_4.length co45)) (fun _ hk => hk.2) (.string (x0_9.extract (x4_14 : Int).toNat x0_9.size))) (fun _ hk => hk.2) (.string a0)) (fun _ hk => trivial), by repeat (first | (with_reducible first | exact HB.out | apply below_alloc | apply pw_below_drewN | apply below_drew1 | refine below_set ?_ GE114.out | refine below_set ?_ GE115.out) | exact HB.out)⟩
                          · rw [if_neg c40] at H
                            exact absurd H (by simp)
                        · rw [if_neg c39] at H
                          exact absurd H (by simp)
                · rw [if_neg c24] at H
                  exact absurd H (by simp)
              · rw [if_neg c23] at H
                exact absurd H (by simp)

/-! ### spec_FewNumbers: function 35 -/
def spec_FewNumbers.f (k : Nat) (a0 : ByteArray) (a1 : Int) : Option (Bool) := (spec_LikeParse.f k a0).bind fun bt127 => (some (decide ((bt127.2.1.length : Int) ≤ a1)))
theorem spec_FewNumbers.mono : ∀ a0 a1 k, LeO (spec_FewNumbers.f k a0 a1) (spec_FewNumbers.f (k + 1) a0 a1) := by
  intro a0 a1 k
  unfold spec_FewNumbers.f
  repeat' first
      | (with_reducible exact spec_LikeParse.mono _ _)
      | (with_reducible exact LeO.refl _)
      | (with_reducible exact LeO.none _)
      | (with_reducible refine LeO.ite ?_ ?_)
      | (with_reducible refine LeO.bind ?_ (fun _ => ?_))
      | exact spec_LikeParse.mono _ _
      | exact LeO.none _
      | refine LeO.ite ?_ ?_
      | refine LeO.bind ?_ (fun _ => ?_)
set_option maxHeartbeats 8000000 in
set_option maxRecDepth 100000 in
theorem spec_FewNumbers.calls (k : Nat) (a0 : ByteArray) (a1 : Int) (r : Bool) (w : World) (h : spec_FewNumbers.f k a0 a1 = some r) :
    Calls Tryz.prog 35 #[.string a0, .int .i64 a1] w fun e w' => e = .returned (.bool r) ∧ Below w.heap.size w w' := by
  have hfd37 : ∀ (lv : Bool) (A : Option Addr) (n c : Nat) (b o : ByteArray) (w : World), (Instr.field 37 (.agg #[.bool lv, .slice A n c, .string b, .string o]) 1).run Tryz.prog w = .ok (.slice A n c) w := fun lv A n c b o w => by simp [Instr.field, run_underlying Tryz.underlying37, part, asAgg]
  have HB := Aside0.mk (Below.refl w.heap.size w)
  have H : ((spec_LikeParse.f k a0).bind fun bt127 => (some (decide ((bt127.2.1.length : Int) ≤ a1)))) = some r := h
  clear h
  replace H := Option.bind_eq_some_iff.mp H
  obtain ⟨⟨t127, t128, t131, t132⟩, A30, H⟩ := H
  replace H : (some (decide ((t128.length : Int) ≤ a1))) = some r := H
  have A3 := Aside0.mk A30
  clear A30
  obtain rfl := Option.some.inj H
  go_enter Tryz.func35, Tryz.ntmps35
  go_wp2_with (first | ((with_reducible refine gate_callee (f := 19) rfl ?_); refine goesL_ (some 6) rfl rfl Tryz.func19 (by kernel_rfl) rfl #[.string a0] rfl (by (try simp only [List.map_toArray, List.map_cons, List.map_nil]); first | done | rfl | (simp only [List.length_drop, List.length_take]; rfl)) ?_; (with_reducible refine (spec_LikeParse.calls k a0 t127 t128 t131 t132 _ A3.out).mono ?_); rintro e w4 ⟨v129, rfl, ho0, hb⟩; refine ⟨_, rfl, ?_⟩; have n0_ := Aside0.mk (Kd.R_lower ho0 (below_size (by repeat (first | (with_reducible first | exact HB.out | apply below_alloc | apply pw_below_drewN | apply below_drew1) | exact HB.out)))); have n1_ := Aside0.mk (below_step (by repeat (first | (with_reducible first | exact HB.out | apply below_alloc | apply pw_below_drewN | apply below_drew1) | exact HB.out)) hb); clear HB; have HO130 := n0_; have HB := n1_; clear n0_ n1_; (try clear hb); (try clear hb2); (try clear hk); (try clear hi); (try clear ho0); obtain ⟨Ao5, co5, eo5⟩ := Kd.R_slice HO130.out; subst eo5))
  go_ret
  exact ⟨by first | rfl | (simp [errW_none, errW_some] <;> rfl) | (simp [*, errW_none, errW_some] <;> rfl) | (simp [bne_nil_]; done), by repeat (first | (with_reducible first | exact HB.out | apply below_alloc | apply pw_below_drewN | apply below_drew1) | exact HB.out)⟩

/-! ### laws_few: function 17 -/
def laws_few.f (k : Nat) (a0 : ByteArray) (a1 : Int) : Option (Bool) := (laws_short.f k (([a0] : List ByteArray))).bind fun t136 => (if t136 = true then ((spec_LikeKnown.f a0).bind fun t137 => (if t137 = true then ((spec_Ascii.f k a0).bind fun t138 => (if t138 = true then ((spec_FewNumbers.f k a0 a1).bind fun t139 => (some t139)) else (some false))) else (some false))) else (some false))
theorem laws_few.mono : ∀ a0 a1 k, LeO (laws_few.f k a0 a1) (laws_few.f (k + 1) a0 a1) := by
  intro a0 a1 k
  unfold laws_few.f
  repeat' first
      | (with_reducible exact laws_short.mono _ _)
      | (with_reducible exact spec_Ascii.mono _ _)
      | (with_reducible exact spec_FewNumbers.mono _ _ _)
      | (with_reducible exact LeO.refl _)
      | (with_reducible exact LeO.none _)
      | (with_reducible refine LeO.ite ?_ ?_)
      | (with_reducible refine LeO.bind ?_ (fun _ => ?_))
      | exact laws_short.mono _ _
      | exact spec_Ascii.mono _ _
      | exact spec_FewNumbers.mono _ _ _
      | exact LeO.none _
      | refine LeO.ite ?_ ?_
      | refine LeO.bind ?_ (fun _ => ?_)
set_option maxHeartbeats 8000000 in
set_option maxRecDepth 100000 in
theorem laws_few.calls (k : Nat) (a0 : ByteArray) (a1 : Int) (r : Bool) (w : World) (h : laws_few.f k a0 a1 = some r) (hL : Giv.LaidU w) :
    Calls Tryz.prog 17 #[.string a0, .int .i64 a1] w fun e w' => e = .returned (.bool r) ∧ Below w.heap.size w w' := by
  have HLd := Aside0.mk hL
  clear hL
  have HB := Aside0.mk (Below.refl w.heap.size w)
  have H : ((laws_short.f k (([a0] : List ByteArray))).bind fun t136 => (if t136 = true then ((spec_LikeKnown.f a0).bind fun t137 => (if t137 = true then ((spec_Ascii.f k a0).bind fun t138 => (if t138 = true then ((spec_FewNumbers.f k a0 a1).bind fun t139 => (some t139)) else (some false))) else (some false))) else (some false))) = some r := h
  clear h
  obtain ⟨y133, hy133⟩ : ∃ y_ : List ByteArray, y_ = (([a0] : List ByteArray)) := ⟨_, rfl⟩
  replace H : ((laws_short.f k y133).bind fun t136 => (if t136 = true then ((spec_LikeKnown.f a0).bind fun t137 => (if t137 = true then ((spec_Ascii.f k a0).bind fun t138 => (if t138 = true then ((spec_FewNumbers.f k a0 a1).bind fun t139 => (some t139)) else (some false))) else (some false))) else (some false))) = some r := by first | (rw [hy133]; with_reducible exact H) | (have H2_ := (Option.bind_some _ _).symm.trans H; rw [hy133]; with_reducible exact H2_) | (have H2_ := (Option.bind_some _ _).symm.trans H; with_reducible exact H2_) | with_reducible exact H | (rw [hy133]; exact H) | exact H
  have Ny133 := Aside0.mk hy133
  clear hy133
  replace H := Option.bind_eq_some_iff.mp H
  obtain ⟨t136, A30, H⟩ := H
  replace H : (if t136 = true then ((spec_LikeKnown.f a0).bind fun t137 => (if t137 = true then ((spec_Ascii.f k a0).bind fun t138 => (if t138 = true then ((spec_FewNumbers.f k a0 a1).bind fun t139 => (some t139)) else (some false))) else (some false))) else (some false)) = some r := H
  have A3 := Aside0.mk A30
  clear A30
  by_cases c4 : t136 = true
  · subst c4
    have H1 : ((spec_LikeKnown.f a0).bind fun t137 => (if t137 = true then ((spec_Ascii.f k a0).bind fun t138 => (if t138 = true then ((spec_FewNumbers.f k a0 a1).bind fun t139 => (some t139)) else (some false))) else (some false))) = some r := by rw [if_pos rfl] at H; exact H
    clear H
    have H := H1
    clear H1
    replace H := Option.bind_eq_some_iff.mp H
    obtain ⟨t137, A50, H⟩ := H
    replace H : (if t137 = true then ((spec_Ascii.f k a0).bind fun t138 => (if t138 = true then ((spec_FewNumbers.f k a0 a1).bind fun t139 => (some t139)) else (some false))) else (some false)) = some r := H
    have A5 := Aside0.mk A50
    clear A50
    by_cases c6 : t137 = true
    · subst c6
      have H1 : ((spec_Ascii.f k a0).bind fun t138 => (if t138 = true then ((spec_FewNumbers.f k a0 a1).bind fun t139 => (some t139)) else (some false))) = some r := by rw [if_pos rfl] at H; exact H
      clear H
      have H := H1
      clear H1
      replace H := Option.bind_eq_some_iff.mp H
      obtain ⟨t138, A70, H⟩ := H
      replace H : (if t138 = true then ((spec_FewNumbers.f k a0 a1).bind fun t139 => (some t139)) else (some false)) = some r := H
      have A7 := Aside0.mk A70
      clear A70
      by_cases c8 : t138 = true
      · subst c8
        have H1 : ((spec_FewNumbers.f k a0 a1).bind fun t139 => (some t139)) = some r := by rw [if_pos rfl] at H; exact H
        clear H
        have H := H1
        clear H1
        replace H := Option.bind_eq_some_iff.mp H
        obtain ⟨t139, A90, H⟩ := H
        replace H : (some t139) = some r := H
        have A9 := Aside0.mk A90
        clear A90
        obtain rfl := Option.some.inj H
        go_enter Tryz.func17, Tryz.ntmps17
        go_wp2_with (first | ((with_reducible refine gate_dst (N := 6) rfl ?_); refine Kd.R_lit Kd.string _ 9 ?hg (N := 6) ?hd (xs := ([a0] : List ByteArray)) (inner := [.string a0]) (ok := fun _ => True) (okp := fun _ => True) ?hr ?hp (fun _ hk => hk) trivial (Below.refl _ _) (Nat.le_refl _) (by simp) ?_; (case hd => rfl); (case hg => rfl); (case hr => first | (go_simp; done) | (go_simp; rfl)); (case hp => exact (Reps.one (show Kd.M Kd.string _ _ _ a0 [.string a0] from rfl) (Reps.none _ _))); intro v134 w10 ho11 hb hg_ hnew_; clear hg_ hnew_; (first | rw [← Ny133.out] at ho11 | (simp only [Int.reduceToNat] at ho11; rw [← Ny133.out] at ho11)); have n0_ := Aside0.mk (Kd.R_lower ho11 (below_size (by repeat (first | (with_reducible first | exact HB.out | apply below_alloc | apply pw_below_drewN | apply below_drew1) | exact HB.out)))); have n1_ := Aside0.mk (below_step (by repeat (first | (with_reducible first | exact HB.out | apply below_alloc | apply pw_below_drewN | apply below_drew1) | exact HB.out)) hb); clear HB; have HO135 := n0_; have HB := n1_; clear n0_ n1_; clear hb ho11; obtain ⟨Ao12, co12, eo12⟩ := Kd.R_slice HO135.out; subst eo12) | ((with_reducible refine gate_callee (f := 7) rfl ?_); refine goesL_ (some 7) rfl rfl Tryz.func7 (by kernel_rfl) rfl #[.slice Ao12 y133.length co12] rfl (by (try simp only [List.map_toArray, List.map_cons, List.map_nil]); first | done | rfl | (simp only [List.length_drop, List.length_take]; rfl)) ?_; (with_reducible refine (laws_short.calls k _ _ y133 true _ ?side1 ?side2 A3.out).mono ?_); (case side1 => repeat (first | exact (Kd.R_reads' HO135.out).2.2 | (with_reducible refine Kd.C_alloc ?_ _) | (with_reducible refine Kd.C_drewN ?_ _) | (with_reducible refine Kd.C_drew ?_))); (case side2 => exact (Kd.R_reads' HO135.out).2.1); rintro e w' ⟨rfl, ⟨nd, rfl⟩⟩; refine ⟨_, rfl, ?_⟩) | (go_at_call 33; (with_reducible refine (spec_LikeKnown.calls a0 true _ A5.out (HLd.out.below (by repeat (first | (with_reducible first | exact HB.out | apply below_alloc | apply pw_below_drewN | apply below_drew1) | exact HB.out)))).mono ?_); rintro e w13 ⟨rfl, hb⟩; have n0_ := Aside0.mk (Kd.R_below (by (with_reducible repeat (first | apply Kd.R_alloc | apply Kd.R_drewN | apply Kd.R_drew)); exact HO135.out) hb); have n1_ := Aside0.mk (below_step (by repeat (first | (with_reducible first | exact HB.out | apply below_alloc | apply pw_below_drewN | apply below_drew1) | exact HB.out)) hb); clear HO135; clear HB; have HO135 := n0_; have HB := n1_; clear n0_ n1_; (try clear hb); (try clear hb2); (try clear hk); (try clear hi)) | (go_at_call 34; (with_reducible refine (spec_Ascii.calls k a0 true _ A7.out).mono ?_); rintro e w' ⟨rfl, ⟨nd, rfl⟩⟩) | (go_at_call 35; (with_reducible refine (spec_FewNumbers.calls k a0 a1 t139 _ A9.out).mono ?_); rintro e w14 ⟨rfl, hb⟩; have n0_ := Aside0.mk (Kd.R_below (by (with_reducible repeat (first | apply Kd.R_alloc | apply Kd.R_drewN | apply Kd.R_drew)); exact HO135.out) hb); have n1_ := Aside0.mk (below_step (by repeat (first | (with_reducible first | exact HB.out | apply below_alloc | apply pw_below_drewN | apply below_drew1) | exact HB.out)) hb); clear HO135; clear HB; have HO135 := n0_; have HB := n1_; clear n0_ n1_; (try clear hb); (try clear hb2); (try clear hk); (try clear hi)))
        go_ret
        exact ⟨by first | rfl | (simp [errW_none, errW_some] <;> rfl) | (simp [*, errW_none, errW_some] <;> rfl) | (simp [bne_nil_]; done), by repeat (first | (with_reducible first | exact HB.out | apply below_alloc | apply pw_below_drewN | apply below_drew1) | exact HB.out)⟩
      · replace c8 := Bool.eq_false_iff.mpr c8
        subst c8
        have H1 : (some false) = some r := by rw [if_neg (show ¬ (false = true) by decide)] at H; exact H
        clear H
        have H := H1
        clear H1
        obtain rfl := Option.some.inj H
        go_enter Tryz.func17, Tryz.ntmps17
        go_wp2_with (first | ((with_reducible refine gate_dst (N := 6) rfl ?_); refine Kd.R_lit Kd.string _ 9 ?hg (N := 6) ?hd (xs := ([a0] : List ByteArray)) (inner := [.string a0]) (ok := fun _ => True) (okp := fun _ => True) ?hr ?hp (fun _ hk => hk) trivial (Below.refl _ _) (Nat.le_refl _) (by simp) ?_; (case hd => rfl); (case hg => rfl); (case hr => first | (go_simp; done) | (go_simp; rfl)); (case hp => exact (Reps.one (show Kd.M Kd.string _ _ _ a0 [.string a0] from rfl) (Reps.none _ _))); intro v134 w15 ho16 hb hg_ hnew_; clear hg_ hnew_; (first | rw [← Ny133.out] at ho16 | (simp only [Int.reduceToNat] at ho16; rw [← Ny133.out] at ho16)); have n0_ := Aside0.mk (Kd.R_lower ho16 (below_size (by repeat (first | (with_reducible first | exact HB.out | apply below_alloc | apply pw_below_drewN | apply below_drew1) | exact HB.out)))); have n1_ := Aside0.mk (below_step (by repeat (first | (with_reducible first | exact HB.out | apply below_alloc | apply pw_below_drewN | apply below_drew1) | exact HB.out)) hb); clear HB; have HO135 := n0_; have HB := n1_; clear n0_ n1_; clear hb ho16; obtain ⟨Ao17, co17, eo17⟩ := Kd.R_slice HO135.out; subst eo17) | ((with_reducible refine gate_callee (f := 7) rfl ?_); refine goesL_ (some 7) rfl rfl Tryz.func7 (by kernel_rfl) rfl #[.slice Ao17 y133.length co17] rfl (by (try simp only [List.map_toArray, List.map_cons, List.map_nil]); first | done | rfl | (simp only [List.length_drop, List.length_take]; rfl)) ?_; (with_reducible refine (laws_short.calls k _ _ y133 true _ ?side1 ?side2 A3.out).mono ?_); (case side1 => repeat (first | exact (Kd.R_reads' HO135.out).2.2 | (with_reducible refine Kd.C_alloc ?_ _) | (with_reducible refine Kd.C_drewN ?_ _) | (with_reducible refine Kd.C_drew ?_))); (case side2 => exact (Kd.R_reads' HO135.out).2.1); rintro e w' ⟨rfl, ⟨nd, rfl⟩⟩; refine ⟨_, rfl, ?_⟩) | (go_at_call 33; (with_reducible refine (spec_LikeKnown.calls a0 true _ A5.out (HLd.out.below (by repeat (first | (with_reducible first | exact HB.out | apply below_alloc | apply pw_below_drewN | apply below_drew1) | exact HB.out)))).mono ?_); rintro e w18 ⟨rfl, hb⟩; have n0_ := Aside0.mk (Kd.R_below (by (with_reducible repeat (first | apply Kd.R_alloc | apply Kd.R_drewN | apply Kd.R_drew)); exact HO135.out) hb); have n1_ := Aside0.mk (below_step (by repeat (first | (with_reducible first | exact HB.out | apply below_alloc | apply pw_below_drewN | apply below_drew1) | exact HB.out)) hb); clear HO135; clear HB; have HO135 := n0_; have HB := n1_; clear n0_ n1_; (try clear hb); (try clear hb2); (try clear hk); (try clear hi)) | (go_at_call 34; (with_reducible refine (spec_Ascii.calls k a0 false _ A7.out).mono ?_); rintro e w' ⟨rfl, ⟨nd, rfl⟩⟩))
        go_ret
        exact ⟨by first | rfl | (simp [errW_none, errW_some] <;> rfl) | (simp [*, errW_none, errW_some] <;> rfl) | (simp [bne_nil_]; done), by repeat (first | (with_reducible first | exact HB.out | apply below_alloc | apply pw_below_drewN | apply below_drew1) | exact HB.out)⟩
    · replace c6 := Bool.eq_false_iff.mpr c6
      subst c6
      have H1 : (some false) = some r := by rw [if_neg (show ¬ (false = true) by decide)] at H; exact H
      clear H
      have H := H1
      clear H1
      obtain rfl := Option.some.inj H
      go_enter Tryz.func17, Tryz.ntmps17
      go_wp2_with (first | ((with_reducible refine gate_dst (N := 6) rfl ?_); refine Kd.R_lit Kd.string _ 9 ?hg (N := 6) ?hd (xs := ([a0] : List ByteArray)) (inner := [.string a0]) (ok := fun _ => True) (okp := fun _ => True) ?hr ?hp (fun _ hk => hk) trivial (Below.refl _ _) (Nat.le_refl _) (by simp) ?_; (case hd => rfl); (case hg => rfl); (case hr => first | (go_simp; done) | (go_simp; rfl)); (case hp => exact (Reps.one (show Kd.M Kd.string _ _ _ a0 [.string a0] from rfl) (Reps.none _ _))); intro v134 w19 ho20 hb hg_ hnew_; clear hg_ hnew_; (first | rw [← Ny133.out] at ho20 | (simp only [Int.reduceToNat] at ho20; rw [← Ny133.out] at ho20)); have n0_ := Aside0.mk (Kd.R_lower ho20 (below_size (by repeat (first | (with_reducible first | exact HB.out | apply below_alloc | apply pw_below_drewN | apply below_drew1) | exact HB.out)))); have n1_ := Aside0.mk (below_step (by repeat (first | (with_reducible first | exact HB.out | apply below_alloc | apply pw_below_drewN | apply below_drew1) | exact HB.out)) hb); clear HB; have HO135 := n0_; have HB := n1_; clear n0_ n1_; clear hb ho20; obtain ⟨Ao21, co21, eo21⟩ := Kd.R_slice HO135.out; subst eo21) | ((with_reducible refine gate_callee (f := 7) rfl ?_); refine goesL_ (some 7) rfl rfl Tryz.func7 (by kernel_rfl) rfl #[.slice Ao21 y133.length co21] rfl (by (try simp only [List.map_toArray, List.map_cons, List.map_nil]); first | done | rfl | (simp only [List.length_drop, List.length_take]; rfl)) ?_; (with_reducible refine (laws_short.calls k _ _ y133 true _ ?side1 ?side2 A3.out).mono ?_); (case side1 => repeat (first | exact (Kd.R_reads' HO135.out).2.2 | (with_reducible refine Kd.C_alloc ?_ _) | (with_reducible refine Kd.C_drewN ?_ _) | (with_reducible refine Kd.C_drew ?_))); (case side2 => exact (Kd.R_reads' HO135.out).2.1); rintro e w' ⟨rfl, ⟨nd, rfl⟩⟩; refine ⟨_, rfl, ?_⟩) | (go_at_call 33; (with_reducible refine (spec_LikeKnown.calls a0 false _ A5.out (HLd.out.below (by repeat (first | (with_reducible first | exact HB.out | apply below_alloc | apply pw_below_drewN | apply below_drew1) | exact HB.out)))).mono ?_); rintro e w22 ⟨rfl, hb⟩; have n0_ := Aside0.mk (Kd.R_below (by (with_reducible repeat (first | apply Kd.R_alloc | apply Kd.R_drewN | apply Kd.R_drew)); exact HO135.out) hb); have n1_ := Aside0.mk (below_step (by repeat (first | (with_reducible first | exact HB.out | apply below_alloc | apply pw_below_drewN | apply below_drew1) | exact HB.out)) hb); clear HO135; clear HB; have HO135 := n0_; have HB := n1_; clear n0_ n1_; (try clear hb); (try clear hb2); (try clear hk); (try clear hi)))
      go_ret
      exact ⟨by first | rfl | (simp [errW_none, errW_some] <;> rfl) | (simp [*, errW_none, errW_some] <;> rfl) | (simp [bne_nil_]; done), by repeat (first | (with_reducible first | exact HB.out | apply below_alloc | apply pw_below_drewN | apply below_drew1) | exact HB.out)⟩
  · replace c4 := Bool.eq_false_iff.mpr c4
    subst c4
    have H1 : (some false) = some r := by rw [if_neg (show ¬ (false = true) by decide)] at H; exact H
    clear H
    have H := H1
    clear H1
    obtain rfl := Option.some.inj H
    go_enter Tryz.func17, Tryz.ntmps17
    go_wp2_with (first | ((with_reducible refine gate_dst (N := 6) rfl ?_); refine Kd.R_lit Kd.string _ 9 ?hg (N := 6) ?hd (xs := ([a0] : List ByteArray)) (inner := [.string a0]) (ok := fun _ => True) (okp := fun _ => True) ?hr ?hp (fun _ hk => hk) trivial (Below.refl _ _) (Nat.le_refl _) (by simp) ?_; (case hd => rfl); (case hg => rfl); (case hr => first | (go_simp; done) | (go_simp; rfl)); (case hp => exact (Reps.one (show Kd.M Kd.string _ _ _ a0 [.string a0] from rfl) (Reps.none _ _))); intro v134 w23 ho24 hb hg_ hnew_; clear hg_ hnew_; (first | rw [← Ny133.out] at ho24 | (simp only [Int.reduceToNat] at ho24; rw [← Ny133.out] at ho24)); have n0_ := Aside0.mk (Kd.R_lower ho24 (below_size (by repeat (first | (with_reducible first | exact HB.out | apply below_alloc | apply pw_below_drewN | apply below_drew1) | exact HB.out)))); have n1_ := Aside0.mk (below_step (by repeat (first | (with_reducible first | exact HB.out | apply below_alloc | apply pw_below_drewN | apply below_drew1) | exact HB.out)) hb); clear HB; have HO135 := n0_; have HB := n1_; clear n0_ n1_; clear hb ho24; obtain ⟨Ao25, co25, eo25⟩ := Kd.R_slice HO135.out; subst eo25) | ((with_reducible refine gate_callee (f := 7) rfl ?_); refine goesL_ (some 7) rfl rfl Tryz.func7 (by kernel_rfl) rfl #[.slice Ao25 y133.length co25] rfl (by (try simp only [List.map_toArray, List.map_cons, List.map_nil]); first | done | rfl | (simp only [List.length_drop, List.length_take]; rfl)) ?_; (with_reducible refine (laws_short.calls k _ _ y133 false _ ?side1 ?side2 A3.out).mono ?_); (case side1 => repeat (first | exact (Kd.R_reads' HO135.out).2.2 | (with_reducible refine Kd.C_alloc ?_ _) | (with_reducible refine Kd.C_drewN ?_ _) | (with_reducible refine Kd.C_drew ?_))); (case side2 => exact (Kd.R_reads' HO135.out).2.1); rintro e w' ⟨rfl, ⟨nd, rfl⟩⟩; refine ⟨_, rfl, ?_⟩))
    go_ret
    exact ⟨by first | rfl | (simp [errW_none, errW_some] <;> rfl) | (simp [*, errW_none, errW_some] <;> rfl) | (simp [bne_nil_]; done), by repeat (first | (with_reducible first | exact HB.out | apply below_alloc | apply pw_below_drewN | apply below_drew1) | exact HB.out)⟩

/-- THE ONE PURE STATEMENT of laws_few: yours. -/
def laws_few.Pure : Prop := ∀ (a0 : ByteArray) (a1 : Int), a0.size ≤ 140737488351232 → (Lit.int .i64 a1).wf = true → ∃ k, laws_few.f k a0 a1 = some true

/-! ### spec_numTidy: function 77 -/
def spec_numTidy.l0 : Nat → Bool → ByteArray → Option (Bool × ByteArray)
  | 0, _, _ => none
  | k + 1, x141000, x141001 => if (x141001.size : Int) > 0 then (if 0 < (x141001.size : Int) then (if (bt x141001 0) = 0 then (if 1 ≤ (x141001.size : Int) then (spec_numTidy.l0 k x141000 (x141001.extract 1 x141001.size)) else (none)) else (if x141000 = true then (some ((x141001.toList != ([] : List UInt8)), x141001)) else (some (false, x141001)))) else (none)) else (if x141000 = true then (some ((x141001.toList != ([] : List UInt8)), x141001)) else (some (false, x141001)))
def spec_numTidy.f (k : Nat) (a0_0 : Bool) (a0_1 : ByteArray) : Option (Bool × ByteArray) := spec_numTidy.l0 k a0_0 a0_1
theorem spec_numTidy.mono_l : ∀ k, (∀ y0 y1, LeO (spec_numTidy.l0 k y0 y1) (spec_numTidy.l0 (k + 1) y0 y1))
  | 0 => fun _ _ r h => by simp [spec_numTidy.l0] at h
  | k + 1 => by
    have ih0 := spec_numTidy.mono_l k
    · intro y0 y1
      unfold spec_numTidy.l0
      repeat' first
      | (with_reducible exact ih0 _ _)
      | (with_reducible exact LeO.refl _)
      | (with_reducible exact LeO.none _)
      | (with_reducible refine LeO.ite ?_ ?_)
      | (with_reducible refine LeO.bind ?_ (fun _ => ?_))
      | exact ih0 _ _
      | exact LeO.none _
      | refine LeO.ite ?_ ?_
      | refine LeO.bind ?_ (fun _ => ?_)
theorem spec_numTidy.mono : ∀ a0 a1 k, LeO (spec_numTidy.f k a0 a1) (spec_numTidy.f (k + 1) a0 a1) := by
  intro a0 a1 k
  have ih0 := spec_numTidy.mono_l k
  unfold spec_numTidy.f
  repeat' first
      | (with_reducible exact ih0 _ _)
      | (with_reducible exact LeO.refl _)
      | (with_reducible exact LeO.none _)
      | (with_reducible refine LeO.ite ?_ ?_)
      | (with_reducible refine LeO.bind ?_ (fun _ => ?_))
      | exact ih0 _ _
      | exact LeO.none _
      | refine LeO.ite ?_ ?_
      | refine LeO.bind ?_ (fun _ => ?_)
set_option maxHeartbeats 8000000 in
set_option maxRecDepth 100000 in
theorem spec_numTidy.calls (k : Nat) (a0_0 : Bool) (a0_1 : ByteArray) (r1 : Bool) (r2 : ByteArray) (w : World) (h : spec_numTidy.f k a0_0 a0_1 = some (r1, r2)) :
    Calls Tryz.prog 77 #[.agg #[.bool a0_0, .string a0_1]] w fun e w' => e = .returned (.agg #[.bool r1, .string r2]) ∧ Below w.heap.size w w' := by
  have hu64 := Tryz.underlying64
  have HB := Aside0.mk (Below.refl w.heap.size w)
  have H : (spec_numTidy.l0 k a0_0 a0_1) = some (r1, r2) := h
  clear h
  have H' := Aside0.mk H
  clear H
  go_enter Tryz.func77, Tryz.ntmps77
  go_wp2_with (first | ((with_reducible refine gate_dst (N := 1) rfl ?_); refine box_event ?hg (N := 1) ?hd (cs := #[.bool a0_0, .string a0_1]) (t := 64) ?hr ?_; (case hd => rfl); (case hg => rfl); (case hr => first | (go_simp; done) | (go_simp; rfl)); intro gb140 hg w2 hbox hb; have n0_ := Aside0.mk (below_step (by repeat (first | (with_reducible first | exact HB.out | apply below_alloc | apply pw_below_drewN | apply below_drew1) | exact HB.out)) hb); have n1_ := Aside0.mk (hbox); have n2_ := Aside0.mk ((by rw [hg]; exact (below_size (by repeat (first | (with_reducible first | exact HB.out | apply below_alloc | apply pw_below_drewN | apply below_drew1) | exact HB.out))) : w.heap.size ≤ gb140)); have n3_ := Aside0.mk ((by rw [hg]; exact (below_size (by repeat (first | (with_reducible first | exact HB.out | apply below_alloc | apply pw_below_drewN | apply below_drew1) | exact HB.out))) : w.heap.size ≤ gb140)); clear HB; have HB := n0_; have BK140 := n1_; have GW140 := n2_; have GE140 := n3_; clear n0_ n1_ n2_ n3_; clear hb hbox hg) | ((with_reducible refine gate_dst (N := 2) rfl ?_); refine box_event ?hg (N := 2) ?hd (cs := #[.bool false, .string (⟨#[]⟩ : ByteArray)]) (t := 64) ?hr ?_; (case hd => rfl); (case hg => rfl); (case hr => first | (go_simp; done) | (go_simp; rfl)); intro gb141 hg w3 hbox hb; have n0_ := Aside0.mk (blk_below (g := gb140) (o := .cells #[.bool a0_0, .string a0_1] 64 (0, 0)) (by (with_reducible repeat (first | refine blk_drewN ?_ _ | refine blk_drew ?_ | refine blk_alloc ?_ _)); exact BK140.out) hb); have n1_ := Aside0.mk (below_step (by repeat (first | (with_reducible first | exact HB.out | apply below_alloc | apply pw_below_drewN | apply below_drew1 | refine below_set ?_ GE140.out) | exact HB.out)) hb); have n2_ := Aside0.mk (hbox); have n3_ := Aside0.mk ((by rw [hg]; exact (below_size (by repeat (first | (with_reducible first | exact HB.out | apply below_alloc | apply pw_below_drewN | apply below_drew1 | refine below_set ?_ GE140.out) | exact HB.out))) : w.heap.size ≤ gb141)); have n4_ := Aside0.mk ((by rw [hg]; exact (below_size (by repeat (first | (with_reducible first | exact HB.out | apply below_alloc | apply pw_below_drewN | apply below_drew1 | refine below_set ?_ GE140.out) | exact HB.out))) : w.heap.size ≤ gb141)); have n5_ := Aside0.mk ((by rw [hg]; exact Nat.ne_of_lt (blk_lt (g := gb140) (o := .cells #[.bool a0_0, .string a0_1] 64 (0, 0)) (by (with_reducible repeat (first | refine blk_drewN ?_ _ | refine blk_drew ?_ | refine blk_alloc ?_ _)); exact BK140.out)) : gb140 ≠ gb141)); have n6_ := Aside0.mk ((by rw [hg]; exact Nat.ne_of_gt (blk_lt (g := gb140) (o := .cells #[.bool a0_0, .string a0_1] 64 (0, 0)) (by (with_reducible repeat (first | refine blk_drewN ?_ _ | refine blk_drew ?_ | refine blk_alloc ?_ _)); exact BK140.out)) : gb141 ≠ gb140)); clear BK140; clear HB; have BK140 := n0_; have HB := n1_; have BK141 := n2_; have GW141 := n3_; have GE141 := n4_; have NB140_141 := n5_; have NB141_140 := n6_; clear n0_ n1_ n2_ n3_ n4_ n5_ n6_; clear hb hbox hg))
  try go_simp
  go_loopg [] k (fun kq w' => ∃ (x141001_1 : ByteArray), Aside0 (spec_numTidy.l0 kq a0_0 x141001_1 = some (r1, r2)) ∧ Aside0 (kq ≤ k) ∧ Aside0 (w'.heap[gb140]? = some (.cells #[.bool a0_0, .string x141001_1] 64 (0, 0))) ∧ Aside0 (w'.heap[gb141]? = some (.cells #[.bool false, .string (⟨#[]⟩ : ByteArray)] 64 (0, 0))) ∧ Aside0 (Below w.heap.size w w'))
  case atStart => exact ⟨(a0_1), H', ⟨Nat.le_refl _⟩, ⟨by (with_reducible repeat (first | refine blk_drewN ?_ _ | refine blk_drew ?_ | refine blk_alloc ?_ _)); exact BK140.out⟩, ⟨by (with_reducible repeat (first | refine blk_drewN ?_ _ | refine blk_drew ?_ | refine blk_alloc ?_ _)); exact BK141.out⟩, ⟨by repeat (first | (with_reducible first | exact HB.out | apply below_alloc | apply pw_below_drewN | apply below_drew1 | refine below_set ?_ GE140.out | refine below_set ?_ GE141.out) | exact HB.out)⟩⟩
  case round =>
    clear H'
    try clear p2
    obtain ⟨x141001_1, HA, HK1, BK140, BK141, HB⟩ := hrel
    cases gk with
    | zero => exact absurd HA.out (by simp [spec_numTidy.l0])
    | succ k1 =>
      have H := HA.out
      clear HA
      simp only [spec_numTidy.l0] at H
      by_cases c4 : (x141001_1.size : Int) > 0
      · rw [if_pos c4] at H
        have c4b0 : decide (0 < (x141001_1.size : Int)) = true := decide_eq_true c4
        have c4b1 : decide (0 < x141001_1.size) = true := decide_eq_true (by omega)
        clear c4
        by_cases c5 : 0 < (x141001_1.size : Int)
        · rw [if_pos c5] at H
          have c5b0 : decide (0 < (x141001_1.size : Int)) = true := decide_eq_true c5
          have c5b1 : decide (0 < x141001_1.size) = true := decide_eq_true (by omega)
          clear c5
          by_cases c7 : (bt x141001_1 0) = 0
          · rw [if_pos c7] at H
            have c7b0 : ((bt x141001_1 0) == 0) = true := beq_iff_eq.mpr c7
            have c7b1 : ((bt x141001_1 0) != 0) = false := bne_eq_false_iff_eq.mpr c7
            clear c7
            by_cases c8 : 1 ≤ (x141001_1.size : Int)
            · rw [if_pos c8] at H
              have c8b0 := eq_true c8
              have c8b1 : decide (1 ≤ (x141001_1.size : Int)) = true := decide_eq_true c8
              clear c8
              have H' := Aside0.mk H
              clear H
              have hnb9 := NB140_141.out
              have hnc9 := NB141_140.out
              have hcz10_0 : wr.cell? ⟨gb140, 0, none⟩ = some (.bool a0_0) := (blk_cell BK140.out 0).trans rfl
              have hcz10_1 : wr.cell? ⟨gb140, 1, none⟩ = some (.string x141001_1) := (blk_cell BK140.out 1).trans rfl
              have hfz10_0 := blk_frozen BK140.out 0
              have hfz10_1 := blk_frozen BK140.out 1
              have p6 : 0 ≤ (0 : Int) := (by omega)
              have q6 : 0 < x141001_1.size := (by have : (0 : Int) < (x141001_1.size : Int) := of_decide_eq_true (by first | (with_reducible assumption) | assumption); omega)
              have hx6 : ∀ h : 0 < x141001_1.size, ((x141001_1[0]'h).toNat : Int) = bt x141001_1 0 := bt_at x141001_1 0
              clear p6
              have qi6 : (0 < (x141001_1.size : Int)) = True := eq_true (of_decide_eq_true (by first | (with_reducible assumption) | assumption))
              replace q6 := eq_true q6
              go_wp2
              go_roundg k1
              case measure => have := HK1.out; omega
              case rel => exact ⟨(x141001_1.extract 1 x141001_1.size), H', ⟨by have := HK1.out; omega⟩, ⟨by (with_reducible repeat (first | refine blk_drewN ?_ _ | refine blk_drew ?_ | refine blk_alloc ?_ _)); refine blk_put (cs := #[.bool a0_0, .string x141001_1]) ?_ 1 _ rfl; (with_reducible repeat (first | refine blk_drewN ?_ _ | refine blk_drew ?_ | refine blk_alloc ?_ _)); exact BK140.out⟩, ⟨by (with_reducible repeat (first | refine blk_drewN ?_ _ | refine blk_drew ?_ | refine blk_alloc ?_ _)); refine blk_far ?_ NB141_140.out _; (with_reducible repeat (first | refine blk_drewN ?_ _ | refine blk_drew ?_ | refine blk_alloc ?_ _)); exact BK141.out⟩, ⟨by repeat (first | (with_reducible first | exact HB.out | apply below_alloc | apply pw_below_drewN | apply below_drew1 | refine below_set ?_ GE140.out | refine below_set ?_ GE141.out) | exact HB.out)⟩⟩
            · rw [if_neg c8] at H
              exact absurd H (by simp)
          · rw [if_neg c7] at H
            have c7b0 : ((bt x141001_1 0) == 0) = false := beq_eq_false_iff_ne.mpr c7
            have c7b1 : ((bt x141001_1 0) != 0) = true := bne_iff_ne.mpr c7
            by_cases c11 : a0_0 = true
            · subst c11
              have H1 : (some ((x141001_1.toList != ([] : List UInt8)), x141001_1)) = some (r1, r2) := by rw [if_pos rfl] at H; exact H
              clear H
              have H := H1
              clear H1
              simp only [Option.some.injEq, Prod.mk.injEq] at H
              obtain ⟨rfl, rfl⟩ := H
              have hnb12 := NB140_141.out
              have hnc12 := NB141_140.out
              have hcz13_0 : wr.cell? ⟨gb140, 0, none⟩ = some (.bool true) := (blk_cell BK140.out 0).trans rfl
              have hcz13_1 : wr.cell? ⟨gb140, 1, none⟩ = some (.string x141001_1) := (blk_cell BK140.out 1).trans rfl
              have hfz13_0 := blk_frozen BK140.out 0
              have hfz13_1 := blk_frozen BK140.out 1
              have p6 : 0 ≤ (0 : Int) := (by omega)
              have q6 : 0 < x141001_1.size := (by have : (0 : Int) < (x141001_1.size : Int) := of_decide_eq_true (by first | (with_reducible assumption) | assumption); omega)
              have hx6 : ∀ h : 0 < x141001_1.size, ((x141001_1[0]'h).toNat : Int) = bt x141001_1 0 := bt_at x141001_1 0
              clear p6
              have qi6 : (0 < (x141001_1.size : Int)) = True := eq_true (of_decide_eq_true (by first | (with_reducible assumption) | assumption))
              replace q6 := eq_true q6
              have hcz14_0 : wr.cell? ⟨gb141, 0, none⟩ = some (.bool false) := (blk_cell BK141.out 0).trans rfl
              have hcz14_1 : wr.cell? ⟨gb141, 1, none⟩ = some (.string (⟨#[]⟩ : ByteArray)) := (blk_cell BK141.out 1).trans rfl
              have hfz14_0 := blk_frozen BK141.out 0
              have hfz14_1 := blk_frozen BK141.out 1
              go_wp2
              refine bodyPost_ret (results_cell_row rfl _ _ gb141 64 #[.bool (x141001_1.toList != ([] : List UInt8)), .string x141001_1] (0, 0) _ rfl (by (with_reducible repeat (first | refine blk_drewN ?_ _ | refine blk_drew ?_ | refine blk_alloc ?_ _)); refine blk_put (cs := #[.bool (x141001_1.toList != ([] : List UInt8)), .string (⟨#[]⟩ : ByteArray)]) ?_ 1 _ (by first | rfl | simp [bne_nil_]); (with_reducible repeat (first | refine blk_drewN ?_ _ | refine blk_drew ?_ | refine blk_alloc ?_ _)); refine blk_put (cs := #[.bool false, .string (⟨#[]⟩ : ByteArray)]) ?_ 0 _ (by first | rfl | simp [bne_nil_]); (with_reducible repeat (first | refine blk_drewN ?_ _ | refine blk_drew ?_ | refine blk_alloc ?_ _)); refine blk_far ?_ NB141_140.out _; (with_reducible repeat (first | refine blk_drewN ?_ _ | refine blk_drew ?_ | refine blk_alloc ?_ _)); exact BK141.out) Tryz.underlying64 rfl (by kernel_rfl)) rfl ?_
              exact ⟨by first | rfl | (simp [errW_none, errW_some] <;> rfl) | (simp [*, errW_none, errW_some] <;> rfl) | (simp [bne_nil_]; done), by repeat (first | (with_reducible first | exact HB.out | apply below_alloc | apply pw_below_drewN | apply below_drew1 | refine below_set ?_ GE140.out | refine below_set ?_ GE141.out) | exact HB.out)⟩
            · replace c11 := Bool.eq_false_iff.mpr c11
              subst c11
              have H1 : (some (false, x141001_1)) = some (r1, r2) := by rw [if_neg (show ¬ (false = true) by decide)] at H; exact H
              clear H
              have H := H1
              clear H1
              simp only [Option.some.injEq, Prod.mk.injEq] at H
              obtain ⟨rfl, rfl⟩ := H
              have hnb15 := NB140_141.out
              have hnc15 := NB141_140.out
              have hcz16_0 : wr.cell? ⟨gb140, 0, none⟩ = some (.bool false) := (blk_cell BK140.out 0).trans rfl
              have hcz16_1 : wr.cell? ⟨gb140, 1, none⟩ = some (.string x141001_1) := (blk_cell BK140.out 1).trans rfl
              have hfz16_0 := blk_frozen BK140.out 0
              have hfz16_1 := blk_frozen BK140.out 1
              have p6 : 0 ≤ (0 : Int) := (by omega)
              have q6 : 0 < x141001_1.size := (by have : (0 : Int) < (x141001_1.size : Int) := of_decide_eq_true (by first | (with_reducible assumption) | assumption); omega)
              have hx6 : ∀ h : 0 < x141001_1.size, ((x141001_1[0]'h).toNat : Int) = bt x141001_1 0 := bt_at x141001_1 0
              clear p6
              have qi6 : (0 < (x141001_1.size : Int)) = True := eq_true (of_decide_eq_true (by first | (with_reducible assumption) | assumption))
              replace q6 := eq_true q6
              have hcz17_0 : wr.cell? ⟨gb141, 0, none⟩ = some (.bool false) := (blk_cell BK141.out 0).trans rfl
              have hcz17_1 : wr.cell? ⟨gb141, 1, none⟩ = some (.string (⟨#[]⟩ : ByteArray)) := (blk_cell BK141.out 1).trans rfl
              have hfz17_0 := blk_frozen BK141.out 0
              have hfz17_1 := blk_frozen BK141.out 1
              go_wp2
              refine bodyPost_ret (results_cell_row rfl _ _ gb141 64 #[.bool false, .string x141001_1] (0, 0) _ rfl (by (with_reducible repeat (first | refine blk_drewN ?_ _ | refine blk_drew ?_ | refine blk_alloc ?_ _)); refine blk_put (cs := #[.bool false, .string (⟨#[]⟩ : ByteArray)]) ?_ 1 _ rfl; (with_reducible repeat (first | refine blk_drewN ?_ _ | refine blk_drew ?_ | refine blk_alloc ?_ _)); refine blk_put (cs := #[.bool false, .string (⟨#[]⟩ : ByteArray)]) ?_ 0 _ rfl; (with_reducible repeat (first | refine blk_drewN ?_ _ | refine blk_drew ?_ | refine blk_alloc ?_ _)); refine blk_far ?_ NB141_140.out _; (with_reducible repeat (first | refine blk_drewN ?_ _ | refine blk_drew ?_ | refine blk_alloc ?_ _)); exact BK141.out) Tryz.underlying64 rfl (by kernel_rfl)) rfl ?_
              exact ⟨by first | rfl | (simp [errW_none, errW_some] <;> rfl) | (simp [*, errW_none, errW_some] <;> rfl) | (simp [bne_nil_]; done), by repeat (first | (with_reducible first | exact HB.out | apply below_alloc | apply pw_below_drewN | apply below_drew1 | refine below_set ?_ GE140.out | refine below_set ?_ GE141.out) | exact HB.out)⟩
        · rw [if_neg c5] at H
          exact absurd H (by simp)
      · rw [if_neg c4] at H
        have c4b0 : decide (0 < (x141001_1.size : Int)) = false := decide_eq_false c4
        have c4b1 : decide (0 < x141001_1.size) = false := decide_eq_false (by omega)
        clear c4
        by_cases c18 : a0_0 = true
        · subst c18
          have H1 : (some ((x141001_1.toList != ([] : List UInt8)), x141001_1)) = some (r1, r2) := by rw [if_pos rfl] at H; exact H
          clear H
          have H := H1
          clear H1
          simp only [Option.some.injEq, Prod.mk.injEq] at H
          obtain ⟨rfl, rfl⟩ := H
          have hnb19 := NB140_141.out
          have hnc19 := NB141_140.out
          have hcz20_0 : wr.cell? ⟨gb140, 0, none⟩ = some (.bool true) := (blk_cell BK140.out 0).trans rfl
          have hcz20_1 : wr.cell? ⟨gb140, 1, none⟩ = some (.string x141001_1) := (blk_cell BK140.out 1).trans rfl
          have hfz20_0 := blk_frozen BK140.out 0
          have hfz20_1 := blk_frozen BK140.out 1
          have hcz21_0 : wr.cell? ⟨gb141, 0, none⟩ = some (.bool false) := (blk_cell BK141.out 0).trans rfl
          have hcz21_1 : wr.cell? ⟨gb141, 1, none⟩ = some (.string (⟨#[]⟩ : ByteArray)) := (blk_cell BK141.out 1).trans rfl
          have hfz21_0 := blk_frozen BK141.out 0
          have hfz21_1 := blk_frozen BK141.out 1
          go_wp2
          refine bodyPost_ret (results_cell_row rfl _ _ gb141 64 #[.bool (x141001_1.toList != ([] : List UInt8)), .string x141001_1] (0, 0) _ rfl (by (with_reducible repeat (first | refine blk_drewN ?_ _ | refine blk_drew ?_ | refine blk_alloc ?_ _)); refine blk_put (cs := #[.bool (x141001_1.toList != ([] : List UInt8)), .string (⟨#[]⟩ : ByteArray)]) ?_ 1 _ (by first | rfl | simp [bne_nil_]); (with_reducible repeat (first | refine blk_drewN ?_ _ | refine blk_drew ?_ | refine blk_alloc ?_ _)); refine blk_put (cs := #[.bool false, .string (⟨#[]⟩ : ByteArray)]) ?_ 0 _ (by first | rfl | simp [bne_nil_]); (with_reducible repeat (first | refine blk_drewN ?_ _ | refine blk_drew ?_ | refine blk_alloc ?_ _)); refine blk_far ?_ NB141_140.out _; (with_reducible repeat (first | refine blk_drewN ?_ _ | refine blk_drew ?_ | refine blk_alloc ?_ _)); exact BK141.out) Tryz.underlying64 rfl (by kernel_rfl)) rfl ?_
          exact ⟨by first | rfl | (simp [errW_none, errW_some] <;> rfl) | (simp [*, errW_none, errW_some] <;> rfl) | (simp [bne_nil_]; done), by repeat (first | (with_reducible first | exact HB.out | apply below_alloc | apply pw_below_drewN | apply below_drew1 | refine below_set ?_ GE140.out | refine below_set ?_ GE141.out) | exact HB.out)⟩
        · replace c18 := Bool.eq_false_iff.mpr c18
          subst c18
          have H1 : (some (false, x141001_1)) = some (r1, r2) := by rw [if_neg (show ¬ (false = true) by decide)] at H; exact H
          clear H
          have H := H1
          clear H1
          simp only [Option.some.injEq, Prod.mk.injEq] at H
          obtain ⟨rfl, rfl⟩ := H
          have hnb22 := NB140_141.out
          have hnc22 := NB141_140.out
          have hcz23_0 : wr.cell? ⟨gb140, 0, none⟩ = some (.bool false) := (blk_cell BK140.out 0).trans rfl
          have hcz23_1 : wr.cell? ⟨gb140, 1, none⟩ = some (.string x141001_1) := (blk_cell BK140.out 1).trans rfl
          have hfz23_0 := blk_frozen BK140.out 0
          have hfz23_1 := blk_frozen BK140.out 1
          have hcz24_0 : wr.cell? ⟨gb141, 0, none⟩ = some (.bool false) := (blk_cell BK141.out 0).trans rfl
          have hcz24_1 : wr.cell? ⟨gb141, 1, none⟩ = some (.string (⟨#[]⟩ : ByteArray)) := (blk_cell BK141.out 1).trans rfl
          have hfz24_0 := blk_frozen BK141.out 0
          have hfz24_1 := blk_frozen BK141.out 1
          go_wp2
          refine bodyPost_ret (results_cell_row rfl _ _ gb141 64 #[.bool false, .string x141001_1] (0, 0) _ rfl (by (with_reducible repeat (first | refine blk_drewN ?_ _ | refine blk_drew ?_ | refine blk_alloc ?_ _)); refine blk_put (cs := #[.bool false, .string (⟨#[]⟩ : ByteArray)]) ?_ 1 _ rfl; (with_reducible repeat (first | refine blk_drewN ?_ _ | refine blk_drew ?_ | refine blk_alloc ?_ _)); refine blk_put (cs := #[.bool false, .string (⟨#[]⟩ : ByteArray)]) ?_ 0 _ rfl; (with_reducible repeat (first | refine blk_drewN ?_ _ | refine blk_drew ?_ | refine blk_alloc ?_ _)); refine blk_far ?_ NB141_140.out _; (with_reducible repeat (first | refine blk_drewN ?_ _ | refine blk_drew ?_ | refine blk_alloc ?_ _)); exact BK141.out) Tryz.underlying64 rfl (by kernel_rfl)) rfl ?_
          exact ⟨by first | rfl | (simp [errW_none, errW_some] <;> rfl) | (simp [*, errW_none, errW_some] <;> rfl) | (simp [bne_nil_]; done), by repeat (first | (with_reducible first | exact HB.out | apply below_alloc | apply pw_below_drewN | apply below_drew1 | refine below_set ?_ GE140.out | refine below_set ?_ GE141.out) | exact HB.out)⟩

end Go.Proofs.YtdliagehkiihpaaGreatDoor.QW
