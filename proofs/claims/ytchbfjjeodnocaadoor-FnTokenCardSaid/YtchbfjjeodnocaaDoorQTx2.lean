-- Written by a working copy of the kit's print program, turned at a few places by wip/tool/mkprint.py. Lean checks it.
import Derived.Test.YtchbfjjeodnocaaDoorQTx0
namespace Go.Proofs.YtchbfjjeodnocaaDoor.QT
open Go.RowKit Go.Proofs.YtchbfjjeodnocaaDoorW.PrintWords Go.Proofs.YtchbfjjeodnocaaDoorW.PrintLast Go.Proofs.YtchbfjjeodnocaaDoorW.PrintMore
attribute [local go_sem] max2_int min2_int max_two min_two max_three min_three max_four min_four   -- for this text's walks alone
set_option linter.unusedVariables false
set_option linter.unusedSimpArgs false

/-! ### laws_zzFits11: function 14 -/
def laws_zzFits11.f (a0_0 : ByteArray) (a0_1 : ByteArray) (a0_2 : Bool) : Option (Bool) := if (a0_0.size : Int) > 2147483647 then (some false) else (if (a0_1.size : Int) > 2147483647 then (some false) else (some true))
set_option maxHeartbeats 8000000 in
set_option maxRecDepth 100000 in
theorem laws_zzFits11.calls (a0_0 : ByteArray) (a0_1 : ByteArray) (a0_2 : Bool) (r : Bool) (w : World) (h : laws_zzFits11.f a0_0 a0_1 a0_2 = some r) :
    Calls Tryd.prog 14 #[.agg #[.string a0_0, .string a0_1, .bool a0_2]] w fun e w' => e = .returned (.bool r) ∧ Below w.heap.size w w' := by
  have hu23 := Tryd.underlying23
  have HB := Aside0.mk (Below.refl w.heap.size w)
  have H : (if (a0_0.size : Int) > 2147483647 then (some false) else (if (a0_1.size : Int) > 2147483647 then (some false) else (some true))) = some r := h
  clear h
  by_cases c2 : (a0_0.size : Int) > 2147483647
  · rw [if_pos c2] at H
    have c2b0 : decide (2147483647 < (a0_0.size : Int)) = true := decide_eq_true c2
    have c2b1 : decide (2147483647 < a0_0.size) = true := decide_eq_true (by omega)
    clear c2
    obtain rfl := Option.some.inj H
    go_enter Tryd.func14, Tryd.ntmps14
    go_wp2_with (first | ((with_reducible refine gate_dst (N := 1) rfl ?_); refine box_event ?hg (N := 1) ?hd (cs := #[.string a0_0, .string a0_1, .bool a0_2]) (t := 23) ?hr ?_; (case hd => rfl); (case hg => rfl); (case hr => first | (go_simp; done) | (go_simp; rfl)); intro gb101 hg w3 hbox hb; have n0_ := Aside0.mk (below_step (by repeat (first | (with_reducible first | exact HB.out | apply below_alloc | apply pw_below_drewN | apply below_drew1) | exact HB.out)) hb); have n1_ := Aside0.mk (hbox); have n2_ := Aside0.mk ((by rw [hg]; exact (below_size (by repeat (first | (with_reducible first | exact HB.out | apply below_alloc | apply pw_below_drewN | apply below_drew1) | exact HB.out))) : w.heap.size ≤ gb101)); have n3_ := Aside0.mk ((by rw [hg]; exact (below_size (by repeat (first | (with_reducible first | exact HB.out | apply below_alloc | apply pw_below_drewN | apply below_drew1) | exact HB.out))) : w.heap.size ≤ gb101)); clear HB; have HB := n0_; have BK101 := n1_; have GW101 := n2_; have GE101 := n3_; clear n0_ n1_ n2_ n3_; clear hb hbox hg; have hcz4_0 : w3.cell? ⟨gb101, 0, none⟩ = some (.string a0_0) := (blk_cell BK101.out 0).trans rfl; have hcz4_1 : w3.cell? ⟨gb101, 1, none⟩ = some (.string a0_1) := (blk_cell BK101.out 1).trans rfl; have hcz4_2 : w3.cell? ⟨gb101, 2, none⟩ = some (.bool a0_2) := (blk_cell BK101.out 2).trans rfl; have hfz4_0 := blk_frozen BK101.out 0; have hfz4_1 := blk_frozen BK101.out 1; have hfz4_2 := blk_frozen BK101.out 2))
    go_ret
    exact ⟨by first | rfl | (simp [errW_none, errW_some] <;> rfl) | (simp [*, errW_none, errW_some] <;> rfl) | (simp [bne_nil_]; done), by repeat (first | (with_reducible first | exact HB.out | apply below_alloc | apply pw_below_drewN | apply below_drew1 | refine below_set ?_ GE101.out) | exact HB.out)⟩
  · rw [if_neg c2] at H
    have c2b0 : decide (2147483647 < (a0_0.size : Int)) = false := decide_eq_false c2
    have c2b1 : decide (2147483647 < a0_0.size) = false := decide_eq_false (by omega)
    clear c2
    by_cases c5 : (a0_1.size : Int) > 2147483647
    · rw [if_pos c5] at H
      have c5b0 : decide (2147483647 < (a0_1.size : Int)) = true := decide_eq_true c5
      have c5b1 : decide (2147483647 < a0_1.size) = true := decide_eq_true (by omega)
      clear c5
      obtain rfl := Option.some.inj H
      go_enter Tryd.func14, Tryd.ntmps14
      go_wp2_with (first | ((with_reducible refine gate_dst (N := 1) rfl ?_); refine box_event ?hg (N := 1) ?hd (cs := #[.string a0_0, .string a0_1, .bool a0_2]) (t := 23) ?hr ?_; (case hd => rfl); (case hg => rfl); (case hr => first | (go_simp; done) | (go_simp; rfl)); intro gb101 hg w6 hbox hb; have n0_ := Aside0.mk (below_step (by repeat (first | (with_reducible first | exact HB.out | apply below_alloc | apply pw_below_drewN | apply below_drew1) | exact HB.out)) hb); have n1_ := Aside0.mk (hbox); have n2_ := Aside0.mk ((by rw [hg]; exact (below_size (by repeat (first | (with_reducible first | exact HB.out | apply below_alloc | apply pw_below_drewN | apply below_drew1) | exact HB.out))) : w.heap.size ≤ gb101)); have n3_ := Aside0.mk ((by rw [hg]; exact (below_size (by repeat (first | (with_reducible first | exact HB.out | apply below_alloc | apply pw_below_drewN | apply below_drew1) | exact HB.out))) : w.heap.size ≤ gb101)); clear HB; have HB := n0_; have BK101 := n1_; have GW101 := n2_; have GE101 := n3_; clear n0_ n1_ n2_ n3_; clear hb hbox hg; have hcz7_0 : w6.cell? ⟨gb101, 0, none⟩ = some (.string a0_0) := (blk_cell BK101.out 0).trans rfl; have hcz7_1 : w6.cell? ⟨gb101, 1, none⟩ = some (.string a0_1) := (blk_cell BK101.out 1).trans rfl; have hcz7_2 : w6.cell? ⟨gb101, 2, none⟩ = some (.bool a0_2) := (blk_cell BK101.out 2).trans rfl; have hfz7_0 := blk_frozen BK101.out 0; have hfz7_1 := blk_frozen BK101.out 1; have hfz7_2 := blk_frozen BK101.out 2))
      go_ret
      exact ⟨by first | rfl | (simp [errW_none, errW_some] <;> rfl) | (simp [*, errW_none, errW_some] <;> rfl) | (simp [bne_nil_]; done), by repeat (first | (with_reducible first | exact HB.out | apply below_alloc | apply pw_below_drewN | apply below_drew1 | refine below_set ?_ GE101.out) | exact HB.out)⟩
    · rw [if_neg c5] at H
      have c5b0 : decide (2147483647 < (a0_1.size : Int)) = false := decide_eq_false c5
      have c5b1 : decide (2147483647 < a0_1.size) = false := decide_eq_false (by omega)
      clear c5
      obtain rfl := Option.some.inj H
      go_enter Tryd.func14, Tryd.ntmps14
      go_wp2_with (first | ((with_reducible refine gate_dst (N := 1) rfl ?_); refine box_event ?hg (N := 1) ?hd (cs := #[.string a0_0, .string a0_1, .bool a0_2]) (t := 23) ?hr ?_; (case hd => rfl); (case hg => rfl); (case hr => first | (go_simp; done) | (go_simp; rfl)); intro gb101 hg w8 hbox hb; have n0_ := Aside0.mk (below_step (by repeat (first | (with_reducible first | exact HB.out | apply below_alloc | apply pw_below_drewN | apply below_drew1) | exact HB.out)) hb); have n1_ := Aside0.mk (hbox); have n2_ := Aside0.mk ((by rw [hg]; exact (below_size (by repeat (first | (with_reducible first | exact HB.out | apply below_alloc | apply pw_below_drewN | apply below_drew1) | exact HB.out))) : w.heap.size ≤ gb101)); have n3_ := Aside0.mk ((by rw [hg]; exact (below_size (by repeat (first | (with_reducible first | exact HB.out | apply below_alloc | apply pw_below_drewN | apply below_drew1) | exact HB.out))) : w.heap.size ≤ gb101)); clear HB; have HB := n0_; have BK101 := n1_; have GW101 := n2_; have GE101 := n3_; clear n0_ n1_ n2_ n3_; clear hb hbox hg; have hcz9_0 : w8.cell? ⟨gb101, 0, none⟩ = some (.string a0_0) := (blk_cell BK101.out 0).trans rfl; have hcz9_1 : w8.cell? ⟨gb101, 1, none⟩ = some (.string a0_1) := (blk_cell BK101.out 1).trans rfl; have hcz9_2 : w8.cell? ⟨gb101, 2, none⟩ = some (.bool a0_2) := (blk_cell BK101.out 2).trans rfl; have hfz9_0 := blk_frozen BK101.out 0; have hfz9_1 := blk_frozen BK101.out 1; have hfz9_2 := blk_frozen BK101.out 2))
      go_ret
      exact ⟨by first | rfl | (simp [errW_none, errW_some] <;> rfl) | (simp [*, errW_none, errW_some] <;> rfl) | (simp [bne_nil_]; done), by repeat (first | (with_reducible first | exact HB.out | apply below_alloc | apply pw_below_drewN | apply below_drew1 | refine below_set ?_ GE101.out) | exact HB.out)⟩

/-! ### laws_short: function 15 -/
def laws_short.l0 : Nat → List ByteArray → List ByteArray → Int → Int → Option (Bool)
  | 0, _, _, _, _ => none
  | k + 1, x0, x5, x6, x7 => if x7 < x6 then (if 0 ≤ x7 then (if x7 < (x5.length : Int) then (if ((rdOf ByteArray.empty x5 x7).size : Int) > 1500 then (some false) else (laws_short.l0 k x0 x5 x6 (wrap64 (x7 + 1)))) else (none)) else (none)) else (some (decide ((x0.length : Int) ≤ 150)))
def laws_short.f (k : Nat) (l0 : List ByteArray) : Option (Bool) := laws_short.l0 k l0 l0 (l0.length : Int) 0
theorem laws_short.mono_l : ∀ k, (∀ y0 y1 y2 y3, LeO (laws_short.l0 k y0 y1 y2 y3) (laws_short.l0 (k + 1) y0 y1 y2 y3))
  | 0 => fun _ _ _ _ r h => by simp [laws_short.l0] at h
  | k + 1 => by
    have ih0 := laws_short.mono_l k
    · intro y0 y1 y2 y3
      unfold laws_short.l0
      repeat' first
      | (with_reducible exact ih0 _ _ _ _)
      | (with_reducible exact LeO.refl _)
      | (with_reducible exact LeO.none _)
      | (with_reducible refine LeO.ite ?_ ?_)
      | (with_reducible refine LeO.bind ?_ (fun _ => ?_))
      | exact ih0 _ _ _ _
      | exact LeO.none _
      | refine LeO.ite ?_ ?_
      | refine LeO.bind ?_ (fun _ => ?_)
theorem laws_short.mono : ∀ a0 k, LeO (laws_short.f k a0) (laws_short.f (k + 1) a0) := by
  intro a0 k
  have ih0 := laws_short.mono_l k
  unfold laws_short.f
  repeat' first
      | (with_reducible exact ih0 _ _ _ _)
      | (with_reducible exact LeO.refl _)
      | (with_reducible exact LeO.none _)
      | (with_reducible refine LeO.ite ?_ ?_)
      | (with_reducible refine LeO.bind ?_ (fun _ => ?_))
      | exact ih0 _ _ _ _
      | exact LeO.none _
      | refine LeO.ite ?_ ?_
      | refine LeO.bind ?_ (fun _ => ?_)
set_option maxHeartbeats 8000000 in
set_option maxRecDepth 100000 in
theorem laws_short.calls (k : Nat) (A0 : Option Addr) (c0 : Nat) (l0 : List ByteArray) (r : Bool) (w : World) (hr0 : Kd.C Kd.string w A0 l0.length l0) (hc0 : l0.length ≤ c0) (h : laws_short.f k l0 = some r) :
    Calls Tryd.prog 15 #[.slice A0 l0.length c0] w fun e w' => e = .returned (.bool r) ∧ Drawn0 w w' := by
  have HR0 := Aside0.mk hr0
  have HC0 := Aside0.mk hc0
  clear hr0 hc0
  have H : (laws_short.l0 k l0 l0 (l0.length : Int) 0) = some r := h
  clear h
  have H' := Aside0.mk H
  clear H
  go_enter Tryd.func15, Tryd.ntmps15
  go_wp2
  go_loopg [7] k (fun kq v7 w' => ∃ (x7_1 : Int), v7 = .int .i64 x7_1 ∧ Aside0 (laws_short.l0 kq l0 l0 (l0.length : Int) x7_1 = some r) ∧ Aside0 (kq ≤ k) ∧ Drawn0 w w')
  case atStart => exact ⟨(0), (by first | rfl | (simp; done) | (simp [*]; done) | (simp [bne_nil_]; done)), H', ⟨Nat.le_refl _⟩, by repeat (first | exact Drawn0.refl _ | apply Drawn0.step)⟩
  case round =>
    clear H'
    try clear c1
    obtain ⟨x7_1, rfl, HA, HK1, ⟨m1, rfl⟩⟩ := hrel
    cases gk with
    | zero => exact absurd HA.out (by simp [laws_short.l0])
    | succ k1 =>
      have H := HA.out
      clear HA
      simp only [laws_short.l0] at H
      by_cases c2 : x7_1 < (l0.length : Int)
      · rw [if_pos c2] at H
        have c2b0 : decide (x7_1 < (l0.length : Int)) = true := decide_eq_true c2
        clear c2
        by_cases c3 : 0 ≤ x7_1
        · rw [if_pos c3] at H
          have c3b0 : decide (0 ≤ x7_1) = true := decide_eq_true c3
          clear c3
          by_cases c4 : x7_1 < (l0.length : Int)
          · rw [if_pos c4] at H
            have c4b0 : decide (x7_1 < (l0.length : Int)) = true := decide_eq_true c4
            clear c4
            by_cases c5 : ((rdOf ByteArray.empty l0 x7_1).size : Int) > 1500
            · rw [if_pos c5] at H
              have c5b0 : decide (1500 < ((rdOf ByteArray.empty l0 x7_1).size : Int)) = true := decide_eq_true c5
              have c5b1 : decide (1500 < (rdOf ByteArray.empty l0 x7_1).size) = true := decide_eq_true (by omega)
              clear c5
              obtain rfl := Option.some.inj H
              have p102 : 0 ≤ (x7_1 : Int) := of_decide_eq_true (by first | (with_reducible assumption) | assumption)
              have q102 : x7_1 < (l0.length : Int) := of_decide_eq_true (by first | (with_reducible assumption) | assumption)
              obtain ⟨ad102, e102, hx102_0⟩ := Kd.at_string HR0.out x7_1 p102 q102
              cases e102
              replace p102 := eq_true p102
              replace q102 := eq_true q102
              go_wp2
              go_ret
              exact ⟨by first | rfl | (simp; done) | (simp [*]; done) | (simp [bne_nil_]; done), by repeat (first | exact Drawn0.refl _ | apply Drawn0.step)⟩
            · rw [if_neg c5] at H
              have c5b0 : decide (1500 < ((rdOf ByteArray.empty l0 x7_1).size : Int)) = false := decide_eq_false c5
              have c5b1 : decide (1500 < (rdOf ByteArray.empty l0 x7_1).size) = false := decide_eq_false (by omega)
              clear c5
              have H' := Aside0.mk H
              clear H
              have p102 : 0 ≤ (x7_1 : Int) := of_decide_eq_true (by first | (with_reducible assumption) | assumption)
              have q102 : x7_1 < (l0.length : Int) := of_decide_eq_true (by first | (with_reducible assumption) | assumption)
              obtain ⟨ad102, e102, hx102_0⟩ := Kd.at_string HR0.out x7_1 p102 q102
              cases e102
              replace p102 := eq_true p102
              replace q102 := eq_true q102
              go_wp2
              go_roundg k1
              case measure => have := HK1.out; omega
              case rel => exact ⟨(wrap64 (x7_1 + 1)), (by first | rfl | (simp; done) | (simp [*]; done) | (simp [bne_nil_]; done)), H', ⟨by have := HK1.out; omega⟩, by repeat (first | exact Drawn0.refl _ | apply Drawn0.step)⟩
          · rw [if_neg c4] at H
            exact absurd H (by simp)
        · rw [if_neg c3] at H
          exact absurd H (by simp)
      · rw [if_neg c2] at H
        have c2b0 : decide (x7_1 < (l0.length : Int)) = false := decide_eq_false c2
        clear c2
        obtain rfl := Option.some.inj H
        go_wp2
        go_ret
        exact ⟨by first | rfl | (simp; done) | (simp [*]; done) | (simp [bne_nil_]; done), by repeat (first | exact Drawn0.refl _ | apply Drawn0.step)⟩

/-! ### spec_Ascii: function 57 -/
def spec_Ascii.l0 : Nat → ByteArray → Int → Option (Bool)
  | 0, _, _ => none
  | k + 1, x0, x3 => if x3 < (x0.size : Int) then (if 0 ≤ x3 then (if (bt x0 x3) > 127 then (some false) else (spec_Ascii.l0 k x0 (wrap64 (x3 + 1)))) else (none)) else (some true)
def spec_Ascii.f (k : Nat) (a0 : ByteArray) : Option (Bool) := spec_Ascii.l0 k a0 0
theorem spec_Ascii.mono_l : ∀ k, (∀ y0 y1, LeO (spec_Ascii.l0 k y0 y1) (spec_Ascii.l0 (k + 1) y0 y1))
  | 0 => fun _ _ r h => by simp [spec_Ascii.l0] at h
  | k + 1 => by
    have ih0 := spec_Ascii.mono_l k
    · intro y0 y1
      unfold spec_Ascii.l0
      repeat' first
      | (with_reducible exact ih0 _ _)
      | (with_reducible exact LeO.refl _)
      | (with_reducible exact LeO.none _)
      | (with_reducible refine LeO.ite ?_ ?_)
      | (with_reducible refine LeO.bind ?_ (fun _ => ?_))
      | exact ih0 _ _
      | exact LeO.none _
      | refine LeO.ite ?_ ?_
      | refine LeO.bind ?_ (fun _ => ?_)
theorem spec_Ascii.mono : ∀ a0 k, LeO (spec_Ascii.f k a0) (spec_Ascii.f (k + 1) a0) := by
  intro a0 k
  have ih0 := spec_Ascii.mono_l k
  unfold spec_Ascii.f
  repeat' first
      | (with_reducible exact ih0 _ _)
      | (with_reducible exact LeO.refl _)
      | (with_reducible exact LeO.none _)
      | (with_reducible refine LeO.ite ?_ ?_)
      | (with_reducible refine LeO.bind ?_ (fun _ => ?_))
      | exact ih0 _ _
      | exact LeO.none _
      | refine LeO.ite ?_ ?_
      | refine LeO.bind ?_ (fun _ => ?_)
set_option maxHeartbeats 8000000 in
set_option maxRecDepth 100000 in
theorem spec_Ascii.calls (k : Nat) (a0 : ByteArray) (r : Bool) (w : World) (h : spec_Ascii.f k a0 = some r) :
    Calls Tryd.prog 57 #[.string a0] w fun e w' => e = .returned (.bool r) ∧ Drawn0 w w' := by
  have H : (spec_Ascii.l0 k a0 0) = some r := h
  clear h
  have H' := Aside0.mk H
  clear H
  go_enter Tryd.func57, Tryd.ntmps57
  go_wp2
  go_loopg [3] k (fun kq v3 w' => ∃ (x3_1 : Int), v3 = .int .i64 x3_1 ∧ Aside0 (spec_Ascii.l0 kq a0 x3_1 = some r) ∧ Aside0 (kq ≤ k) ∧ Drawn0 w w')
  case atStart => exact ⟨(0), (by first | rfl | (simp; done) | (simp [*]; done) | (simp [bne_nil_]; done)), H', ⟨Nat.le_refl _⟩, by repeat (first | exact Drawn0.refl _ | apply Drawn0.step)⟩
  case round =>
    clear H'
    obtain ⟨x3_1, rfl, HA, HK1, ⟨m1, rfl⟩⟩ := hrel
    cases gk with
    | zero => exact absurd HA.out (by simp [spec_Ascii.l0])
    | succ k1 =>
      have H := HA.out
      clear HA
      simp only [spec_Ascii.l0] at H
      by_cases c2 : x3_1 < (a0.size : Int)
      · rw [if_pos c2] at H
        have c2b0 : decide (x3_1 < (a0.size : Int)) = true := decide_eq_true c2
        clear c2
        by_cases c3 : 0 ≤ x3_1
        · rw [if_pos c3] at H
          have c3b0 : decide (0 ≤ x3_1) = true := decide_eq_true c3
          clear c3
          by_cases c5 : (bt a0 x3_1) > 127
          · rw [if_pos c5] at H
            have c5b0 : decide (127 < (bt a0 x3_1)) = true := decide_eq_true c5
            clear c5
            obtain rfl := Option.some.inj H
            have p4 : 0 ≤ (x3_1 : Int) := of_decide_eq_true (by first | (with_reducible assumption) | assumption)
            have q4 : x3_1 < (a0.size : Int) := of_decide_eq_true (by first | (with_reducible assumption) | assumption)
            have hx4 := bt_at a0 x3_1
            replace p4 := eq_true p4
            replace q4 := eq_true q4
            go_wp2
            go_ret
            exact ⟨by first | rfl | (simp; done) | (simp [*]; done) | (simp [bne_nil_]; done), by repeat (first | exact Drawn0.refl _ | apply Drawn0.step)⟩
          · rw [if_neg c5] at H
            have c5b0 : decide (127 < (bt a0 x3_1)) = false := decide_eq_false c5
            clear c5
            have H' := Aside0.mk H
            clear H
            have p4 : 0 ≤ (x3_1 : Int) := of_decide_eq_true (by first | (with_reducible assumption) | assumption)
            have q4 : x3_1 < (a0.size : Int) := of_decide_eq_true (by first | (with_reducible assumption) | assumption)
            have hx4 := bt_at a0 x3_1
            replace p4 := eq_true p4
            replace q4 := eq_true q4
            go_wp2
            go_roundg k1
            case measure => have := HK1.out; omega
            case rel => exact ⟨(wrap64 (x3_1 + 1)), (by first | rfl | (simp; done) | (simp [*]; done) | (simp [bne_nil_]; done)), H', ⟨by have := HK1.out; omega⟩, by repeat (first | exact Drawn0.refl _ | apply Drawn0.step)⟩
        · rw [if_neg c3] at H
          exact absurd H (by simp)
      · rw [if_neg c2] at H
        have c2b0 : decide (x3_1 < (a0.size : Int)) = false := decide_eq_false c2
        clear c2
        obtain rfl := Option.some.inj H
        go_wp2
        go_ret
        exact ⟨by first | rfl | (simp; done) | (simp [*]; done) | (simp [bne_nil_]; done), by repeat (first | exact Drawn0.refl _ | apply Drawn0.step)⟩

/-! ### spec_isDigit: function 97 -/
def spec_isDigit.f (a0 : Int) : Option (Bool) := if a0 ≥ 48 then (some (decide (a0 ≤ 57))) else (some false)
set_option maxHeartbeats 8000000 in
set_option maxRecDepth 100000 in
theorem spec_isDigit.calls (a0 : Int) (r : Bool) (w : World) (h : spec_isDigit.f a0 = some r) :
    Calls Tryd.prog 97 #[.int .u8 a0] w fun e w' => e = .returned (.bool r) ∧ Drawn0 w w' := by
  have H : (if a0 ≥ 48 then (some (decide (a0 ≤ 57))) else (some false)) = some r := h
  clear h
  by_cases c2 : a0 ≥ 48
  · rw [if_pos c2] at H
    have c2b0 : decide (48 ≤ a0) = true := decide_eq_true c2
    clear c2
    obtain rfl := Option.some.inj H
    go_enter Tryd.func97, Tryd.ntmps97
    go_wp2
    go_ret
    exact ⟨by first | rfl | (simp; done) | (simp [*]; done) | (simp [bne_nil_]; done), by repeat (first | exact Drawn0.refl _ | apply Drawn0.step)⟩
  · rw [if_neg c2] at H
    have c2b0 : decide (48 ≤ a0) = false := decide_eq_false c2
    clear c2
    obtain rfl := Option.some.inj H
    go_enter Tryd.func97, Tryd.ntmps97
    go_wp2
    go_ret
    exact ⟨by first | rfl | (simp; done) | (simp [*]; done) | (simp [bne_nil_]; done), by repeat (first | exact Drawn0.refl _ | apply Drawn0.step)⟩

/-! ### spec_allDigits: function 58 -/
def spec_allDigits.l0 : Nat → ByteArray → Int → Option (Bool)
  | 0, _, _ => none
  | k + 1, x0, x3 => if x3 < (x0.size : Int) then (if 0 ≤ x3 then ((spec_isDigit.f (bt x0 x3)).bind fun t103 => (if t103 = true then (spec_allDigits.l0 k x0 (wrap64 (x3 + 1))) else (some false))) else (none)) else (some (decide ((x0.size : Int) > 0)))
def spec_allDigits.f (k : Nat) (a0 : ByteArray) : Option (Bool) := spec_allDigits.l0 k a0 0
theorem spec_allDigits.mono_l : ∀ k, (∀ y0 y1, LeO (spec_allDigits.l0 k y0 y1) (spec_allDigits.l0 (k + 1) y0 y1))
  | 0 => fun _ _ r h => by simp [spec_allDigits.l0] at h
  | k + 1 => by
    have ih0 := spec_allDigits.mono_l k
    · intro y0 y1
      unfold spec_allDigits.l0
      repeat' first
      | (with_reducible exact ih0 _ _)
      | (with_reducible exact LeO.refl _)
      | (with_reducible exact LeO.none _)
      | (with_reducible refine LeO.ite ?_ ?_)
      | (with_reducible refine LeO.bind ?_ (fun _ => ?_))
      | exact ih0 _ _
      | exact LeO.none _
      | refine LeO.ite ?_ ?_
      | refine LeO.bind ?_ (fun _ => ?_)
theorem spec_allDigits.mono : ∀ a0 k, LeO (spec_allDigits.f k a0) (spec_allDigits.f (k + 1) a0) := by
  intro a0 k
  have ih0 := spec_allDigits.mono_l k
  unfold spec_allDigits.f
  repeat' first
      | (with_reducible exact ih0 _ _)
      | (with_reducible exact LeO.refl _)
      | (with_reducible exact LeO.none _)
      | (with_reducible refine LeO.ite ?_ ?_)
      | (with_reducible refine LeO.bind ?_ (fun _ => ?_))
      | exact ih0 _ _
      | exact LeO.none _
      | refine LeO.ite ?_ ?_
      | refine LeO.bind ?_ (fun _ => ?_)
set_option maxHeartbeats 8000000 in
set_option maxRecDepth 100000 in
theorem spec_allDigits.calls (k : Nat) (a0 : ByteArray) (r : Bool) (w : World) (h : spec_allDigits.f k a0 = some r) :
    Calls Tryd.prog 58 #[.string a0] w fun e w' => e = .returned (.bool r) ∧ Drawn0 w w' := by
  have H : (spec_allDigits.l0 k a0 0) = some r := h
  clear h
  have H' := Aside0.mk H
  clear H
  go_enter Tryd.func58, Tryd.ntmps58
  go_wp2
  go_loopg [3] k (fun kq v3 w' => ∃ (x3_1 : Int), v3 = .int .i64 x3_1 ∧ Aside0 (spec_allDigits.l0 kq a0 x3_1 = some r) ∧ Aside0 (kq ≤ k) ∧ Drawn0 w w')
  case atStart => exact ⟨(0), (by first | rfl | (simp; done) | (simp [*]; done) | (simp [bne_nil_]; done)), H', ⟨Nat.le_refl _⟩, by repeat (first | exact Drawn0.refl _ | apply Drawn0.step)⟩
  case round =>
    clear H'
    obtain ⟨x3_1, rfl, HA, HK1, ⟨m1, rfl⟩⟩ := hrel
    cases gk with
    | zero => exact absurd HA.out (by simp [spec_allDigits.l0])
    | succ k1 =>
      have H := HA.out
      clear HA
      simp only [spec_allDigits.l0] at H
      by_cases c2 : x3_1 < (a0.size : Int)
      · rw [if_pos c2] at H
        have c2b0 : decide (x3_1 < (a0.size : Int)) = true := decide_eq_true c2
        clear c2
        by_cases c3 : 0 ≤ x3_1
        · rw [if_pos c3] at H
          have c3b0 : decide (0 ≤ x3_1) = true := decide_eq_true c3
          clear c3
          replace H := Option.bind_eq_some_iff.mp H
          obtain ⟨t103, A50, H⟩ := H
          replace H : (if t103 = true then (spec_allDigits.l0 k1 a0 (wrap64 (x3_1 + 1))) else (some false)) = some r := H
          have A5 := Aside0.mk A50
          clear A50
          by_cases c6 : t103 = true
          · subst c6
            have H1 : (spec_allDigits.l0 k1 a0 (wrap64 (x3_1 + 1))) = some r := by rw [if_pos rfl] at H; exact H
            clear H
            have H := H1
            clear H1
            have H' := Aside0.mk H
            clear H
            have p4 : 0 ≤ (x3_1 : Int) := of_decide_eq_true (by first | (with_reducible assumption) | assumption)
            have q4 : x3_1 < (a0.size : Int) := of_decide_eq_true (by first | (with_reducible assumption) | assumption)
            have hx4 := bt_at a0 x3_1
            replace p4 := eq_true p4
            replace q4 := eq_true q4
            go_wp2_with (first | ((with_reducible refine gate_callee (f := 97) rfl ?_); refine goesL_ (some 13) rfl rfl Tryd.func97 (by kernel_rfl) rfl #[.int .u8 (bt a0 x3_1)] rfl (by (try simp only [List.map_toArray, List.map_cons, List.map_nil]); first | done | rfl | (simp only [List.length_drop, List.length_take]; rfl)) ?_; (with_reducible refine (spec_isDigit.calls (bt a0 x3_1) true _ A5.out).mono ?_); rintro e w' ⟨rfl, ⟨nd, rfl⟩⟩; refine ⟨_, rfl, ?_⟩))
            go_roundg k1
            case measure => have := HK1.out; omega
            case rel => exact ⟨(wrap64 (x3_1 + 1)), (by first | rfl | (simp; done) | (simp [*]; done) | (simp [bne_nil_]; done)), H', ⟨by have := HK1.out; omega⟩, by repeat (first | exact Drawn0.refl _ | apply Drawn0.step)⟩
          · replace c6 := Bool.eq_false_iff.mpr c6
            subst c6
            have H1 : (some false) = some r := by rw [if_neg (show ¬ (false = true) by decide)] at H; exact H
            clear H
            have H := H1
            clear H1
            obtain rfl := Option.some.inj H
            have p4 : 0 ≤ (x3_1 : Int) := of_decide_eq_true (by first | (with_reducible assumption) | assumption)
            have q4 : x3_1 < (a0.size : Int) := of_decide_eq_true (by first | (with_reducible assumption) | assumption)
            have hx4 := bt_at a0 x3_1
            replace p4 := eq_true p4
            replace q4 := eq_true q4
            go_wp2_with (first | ((with_reducible refine gate_callee (f := 97) rfl ?_); refine goesL_ (some 13) rfl rfl Tryd.func97 (by kernel_rfl) rfl #[.int .u8 (bt a0 x3_1)] rfl (by (try simp only [List.map_toArray, List.map_cons, List.map_nil]); first | done | rfl | (simp only [List.length_drop, List.length_take]; rfl)) ?_; (with_reducible refine (spec_isDigit.calls (bt a0 x3_1) false _ A5.out).mono ?_); rintro e w' ⟨rfl, ⟨nd, rfl⟩⟩; refine ⟨_, rfl, ?_⟩))
            go_ret
            exact ⟨by first | rfl | (simp; done) | (simp [*]; done) | (simp [bne_nil_]; done), by repeat (first | exact Drawn0.refl _ | apply Drawn0.step)⟩
        · rw [if_neg c3] at H
          exact absurd H (by simp)
      · rw [if_neg c2] at H
        have c2b0 : decide (x3_1 < (a0.size : Int)) = false := decide_eq_false c2
        clear c2
        obtain rfl := Option.some.inj H
        go_wp2
        go_ret
        exact ⟨by first | rfl | (simp; done) | (simp [*]; done) | (simp [bne_nil_]; done), by repeat (first | exact Drawn0.refl _ | apply Drawn0.step)⟩

/-! ### spec_mavenLetters: function 59 -/
def spec_mavenLetters.f (a0 : ByteArray) : Option (Bool) := if a0.toList = ([] : List UInt8) then (some true) else (if 0 < (a0.size : Int) then (if (bt a0 0) ≥ 97 then (some (decide ((bt a0 0) ≤ 122))) else (some false)) else (none))
set_option maxHeartbeats 8000000 in
set_option maxRecDepth 100000 in
theorem spec_mavenLetters.calls (a0 : ByteArray) (r : Bool) (w : World) (h : spec_mavenLetters.f a0 = some r) :
    Calls Tryd.prog 59 #[.string a0] w fun e w' => e = .returned (.bool r) ∧ Drawn0 w w' := by
  have H : (if a0.toList = ([] : List UInt8) then (some true) else (if 0 < (a0.size : Int) then (if (bt a0 0) ≥ 97 then (some (decide ((bt a0 0) ≤ 122))) else (some false)) else (none))) = some r := h
  clear h
  by_cases c2 : a0.toList = ([] : List UInt8)
  · rw [if_pos c2] at H
    have c2b0 : (a0.toList == ([] : List UInt8)) = true := beq_iff_eq.mpr c2
    have c2b1 : (a0.toList != ([] : List UInt8)) = false := bne_eq_false_iff_eq.mpr c2
    clear c2
    obtain rfl := Option.some.inj H
    go_enter Tryd.func59, Tryd.ntmps59
    go_wp2
    go_ret
    exact ⟨by first | rfl | (simp; done) | (simp [*]; done) | (simp [bne_nil_]; done), by repeat (first | exact Drawn0.refl _ | apply Drawn0.step)⟩
  · rw [if_neg c2] at H
    have c2b0 : (a0.toList == ([] : List UInt8)) = false := beq_eq_false_iff_ne.mpr c2
    have c2b1 : (a0.toList != ([] : List UInt8)) = true := bne_iff_ne.mpr c2
    by_cases c3 : 0 < (a0.size : Int)
    · rw [if_pos c3] at H
      have c3b0 : decide (0 < (a0.size : Int)) = true := decide_eq_true c3
      have c3b1 : decide (0 < a0.size) = true := decide_eq_true (by omega)
      clear c3
      by_cases c5 : (bt a0 0) ≥ 97
      · rw [if_pos c5] at H
        have c5b0 : decide (97 ≤ (bt a0 0)) = true := decide_eq_true c5
        clear c5
        obtain rfl := Option.some.inj H
        have p4 : 0 ≤ (0 : Int) := (by omega)
        have q4 : 0 < a0.size := (by have : (0 : Int) < (a0.size : Int) := of_decide_eq_true (by first | (with_reducible assumption) | assumption); omega)
        have hx4 : ∀ h : 0 < a0.size, ((a0[0]'h).toNat : Int) = bt a0 0 := bt_at a0 0
        clear p4
        have qi4 : (0 < (a0.size : Int)) = True := eq_true (of_decide_eq_true (by first | (with_reducible assumption) | assumption))
        replace q4 := eq_true q4
        have p6 : 0 ≤ (0 : Int) := (by omega)
        have q6 : 0 < a0.size := (by have : (0 : Int) < (a0.size : Int) := of_decide_eq_true (by first | (with_reducible assumption) | assumption); omega)
        have hx6 : ∀ h : 0 < a0.size, ((a0[0]'h).toNat : Int) = bt a0 0 := bt_at a0 0
        clear p6
        have qi6 : (0 < (a0.size : Int)) = True := eq_true (of_decide_eq_true (by first | (with_reducible assumption) | assumption))
        replace q6 := eq_true q6
        go_enter Tryd.func59, Tryd.ntmps59
        go_wp2
        go_ret
        exact ⟨by first | rfl | (simp; done) | (simp [*]; done) | (simp [bne_nil_]; done), by repeat (first | exact Drawn0.refl _ | apply Drawn0.step)⟩
      · rw [if_neg c5] at H
        have c5b0 : decide (97 ≤ (bt a0 0)) = false := decide_eq_false c5
        clear c5
        obtain rfl := Option.some.inj H
        have p4 : 0 ≤ (0 : Int) := (by omega)
        have q4 : 0 < a0.size := (by have : (0 : Int) < (a0.size : Int) := of_decide_eq_true (by first | (with_reducible assumption) | assumption); omega)
        have hx4 : ∀ h : 0 < a0.size, ((a0[0]'h).toNat : Int) = bt a0 0 := bt_at a0 0
        clear p4
        have qi4 : (0 < (a0.size : Int)) = True := eq_true (of_decide_eq_true (by first | (with_reducible assumption) | assumption))
        replace q4 := eq_true q4
        go_enter Tryd.func59, Tryd.ntmps59
        go_wp2
        go_ret
        exact ⟨by first | rfl | (simp; done) | (simp [*]; done) | (simp [bne_nil_]; done), by repeat (first | exact Drawn0.refl _ | apply Drawn0.step)⟩
    · rw [if_neg c3] at H
      exact absurd H (by simp)

/-! ### spec_TokenKnown: function 16 -/
def spec_TokenKnown.j0 : Nat → Bool → ByteArray → ByteArray → Bool → Option (Bool)
  | 0, _, _, _, _ => none
  | k + 1, x25, x105000, x105001, x105002 => if x25 = true then (some false) else ((spec_allDigits.f k x105001).bind fun t108 => (if t108 = true then (if (x105001.size : Int) = 1 then (some true) else (if 0 < (x105001.size : Int) then (some ((bt x105001 0) != 48)) else (none))) else ((spec_mavenLetters.f x105001).bind fun t109 => (some t109))))
def spec_TokenKnown.f (k : Nat) (a0_0 : ByteArray) (a0_1 : ByteArray) (a0_2 : Bool) : Option (Bool) := if a0_2 = true then (spec_TokenKnown.j0 k true a0_0 a0_1 a0_2) else (if a0_0.toList = ([] : List UInt8) then ((spec_Ascii.f k a0_1).bind fun t105 => (spec_TokenKnown.j0 k (!t105) a0_0 a0_1 a0_2)) else (if a0_0.toList = ([46] : List UInt8) then ((spec_Ascii.f k a0_1).bind fun t106 => (spec_TokenKnown.j0 k (!t106) a0_0 a0_1 a0_2)) else (if a0_0.toList = ([45] : List UInt8) then ((spec_Ascii.f k a0_1).bind fun t107 => (spec_TokenKnown.j0 k (!t107) a0_0 a0_1 a0_2)) else (spec_TokenKnown.j0 k true a0_0 a0_1 a0_2))))
theorem spec_TokenKnown.mono_l : ∀ k, (∀ y0 y1 y2 y3, LeO (spec_TokenKnown.j0 k y0 y1 y2 y3) (spec_TokenKnown.j0 (k + 1) y0 y1 y2 y3))
  | 0 => fun _ _ _ _ r h => by simp [spec_TokenKnown.j0] at h
  | k + 1 => by
    have ih0 := spec_TokenKnown.mono_l k
    · intro y0 y1 y2 y3
      unfold spec_TokenKnown.j0
      repeat' first
      | (with_reducible exact ih0 _ _ _ _)
      | (with_reducible exact spec_Ascii.mono _ _)
      | (with_reducible exact spec_allDigits.mono _ _)
      | (with_reducible exact LeO.refl _)
      | (with_reducible exact LeO.none _)
      | (with_reducible refine LeO.ite ?_ ?_)
      | (with_reducible refine LeO.bind ?_ (fun _ => ?_))
      | exact ih0 _ _ _ _
      | exact spec_Ascii.mono _ _
      | exact spec_allDigits.mono _ _
      | exact LeO.none _
      | refine LeO.ite ?_ ?_
      | refine LeO.bind ?_ (fun _ => ?_)
theorem spec_TokenKnown.mono : ∀ a0 a1 a2 k, LeO (spec_TokenKnown.f k a0 a1 a2) (spec_TokenKnown.f (k + 1) a0 a1 a2) := by
  intro a0 a1 a2 k
  have ih0 := spec_TokenKnown.mono_l k
  unfold spec_TokenKnown.f
  repeat' first
      | (with_reducible exact ih0 _ _ _ _)
      | (with_reducible exact spec_Ascii.mono _ _)
      | (with_reducible exact spec_allDigits.mono _ _)
      | (with_reducible exact LeO.refl _)
      | (with_reducible exact LeO.none _)
      | (with_reducible refine LeO.ite ?_ ?_)
      | (with_reducible refine LeO.bind ?_ (fun _ => ?_))
      | exact ih0 _ _ _ _
      | exact spec_Ascii.mono _ _
      | exact spec_allDigits.mono _ _
      | exact LeO.none _
      | refine LeO.ite ?_ ?_
      | refine LeO.bind ?_ (fun _ => ?_)
set_option maxHeartbeats 8000000 in
set_option maxRecDepth 100000 in
theorem spec_TokenKnown.calls (k : Nat) (a0_0 : ByteArray) (a0_1 : ByteArray) (a0_2 : Bool) (r : Bool) (w : World) (h : spec_TokenKnown.f k a0_0 a0_1 a0_2 = some r) :
    Calls Tryd.prog 16 #[.agg #[.string a0_0, .string a0_1, .bool a0_2]] w fun e w' => e = .returned (.bool r) ∧ Below w.heap.size w w' := by
  have hu23 := Tryd.underlying23
  have HB := Aside0.mk (Below.refl w.heap.size w)
  have H : (if a0_2 = true then (spec_TokenKnown.j0 k true a0_0 a0_1 a0_2) else (if a0_0.toList = ([] : List UInt8) then ((spec_Ascii.f k a0_1).bind fun t105 => (spec_TokenKnown.j0 k (!t105) a0_0 a0_1 a0_2)) else (if a0_0.toList = ([46] : List UInt8) then ((spec_Ascii.f k a0_1).bind fun t106 => (spec_TokenKnown.j0 k (!t106) a0_0 a0_1 a0_2)) else (if a0_0.toList = ([45] : List UInt8) then ((spec_Ascii.f k a0_1).bind fun t107 => (spec_TokenKnown.j0 k (!t107) a0_0 a0_1 a0_2)) else (spec_TokenKnown.j0 k true a0_0 a0_1 a0_2))))) = some r := h
  clear h
  have HC2 := Aside0.mk H
  clear H
  go_enter Tryd.func16, Tryd.ntmps16
  go_upto_region 1 with (first | ((with_reducible refine gate_dst (N := 1) rfl ?_); refine box_event ?hg (N := 1) ?hd (cs := #[.string a0_0, .string a0_1, .bool a0_2]) (t := 23) ?hr ?_; (case hd => rfl); (case hg => rfl); (case hr => first | (go_simp; done) | (go_simp; rfl)); intro gb104 hg w3 hbox hb; have n0_ := Aside0.mk (below_step (by repeat (first | (with_reducible first | exact HB.out | apply below_alloc | apply pw_below_drewN | apply below_drew1) | exact HB.out)) hb); have n1_ := Aside0.mk (hbox); have n2_ := Aside0.mk ((by rw [hg]; exact (below_size (by repeat (first | (with_reducible first | exact HB.out | apply below_alloc | apply pw_below_drewN | apply below_drew1) | exact HB.out))) : w.heap.size ≤ gb104)); have n3_ := Aside0.mk ((by rw [hg]; exact (below_size (by repeat (first | (with_reducible first | exact HB.out | apply below_alloc | apply pw_below_drewN | apply below_drew1) | exact HB.out))) : w.heap.size ≤ gb104)); clear HB; have HB := n0_; have BK104 := n1_; have GW104 := n2_; have GE104 := n3_; clear n0_ n1_ n2_ n3_; clear hb hbox hg))
  (try simp only [Act.put, List.setIfInBounds_toArray, List.set_cons_zero, List.set_cons_succ])
  go_cut [25] (fun v25 wc => ∃ (kq : Nat) (x25_1 : Bool), v25 = .bool x25_1 ∧ Aside0 (spec_TokenKnown.j0 kq x25_1 a0_0 a0_1 a0_2 = some r) ∧ Aside0 (kq ≤ k) ∧ Aside0 (wc.heap[gb104]? = some (.cells #[.string a0_0, .string a0_1, .bool a0_2] 23 (0, 0))) ∧ Aside0 (Below w.heap.size w wc))
  case first =>
    have H := HC2.out
    clear HC2
    by_cases c4 : a0_2 = true
    · subst c4
      have H1 : (spec_TokenKnown.j0 k true a0_0 a0_1 true) = some r := by rw [if_pos rfl] at H; exact H
      clear H
      have H := H1
      clear H1
      have H' := Aside0.mk H
      clear H
      have hcz5_0 : w3.cell? ⟨gb104, 0, none⟩ = some (.string a0_0) := (blk_cell BK104.out 0).trans rfl
      have hcz5_1 : w3.cell? ⟨gb104, 1, none⟩ = some (.string a0_1) := (blk_cell BK104.out 1).trans rfl
      have hcz5_2 : w3.cell? ⟨gb104, 2, none⟩ = some (.bool true) := (blk_cell BK104.out 2).trans rfl
      have hfz5_0 := blk_frozen BK104.out 0
      have hfz5_1 := blk_frozen BK104.out 1
      have hfz5_2 := blk_frozen BK104.out 2
      go_wp2
      go_meet
      case rel => exact ⟨_, (true), (by first | rfl | (simp; done) | (simp [*]; done) | (simp [bne_nil_]; done)), H', ⟨by first | omega | exact Nat.le_refl _⟩, ⟨by (with_reducible repeat (first | refine blk_drewN ?_ _ | refine blk_drew ?_ | refine blk_alloc ?_ _)); exact BK104.out⟩, ⟨by repeat (first | (with_reducible first | exact HB.out | apply below_alloc | apply pw_below_drewN | apply below_drew1 | refine below_set ?_ GE104.out) | exact HB.out)⟩⟩
    · replace c4 := Bool.eq_false_iff.mpr c4
      subst c4
      have H1 : (if a0_0.toList = ([] : List UInt8) then ((spec_Ascii.f k a0_1).bind fun t105 => (spec_TokenKnown.j0 k (!t105) a0_0 a0_1 false)) else (if a0_0.toList = ([46] : List UInt8) then ((spec_Ascii.f k a0_1).bind fun t106 => (spec_TokenKnown.j0 k (!t106) a0_0 a0_1 false)) else (if a0_0.toList = ([45] : List UInt8) then ((spec_Ascii.f k a0_1).bind fun t107 => (spec_TokenKnown.j0 k (!t107) a0_0 a0_1 false)) else (spec_TokenKnown.j0 k true a0_0 a0_1 false)))) = some r := by rw [if_neg (show ¬ (false = true) by decide)] at H; exact H
      clear H
      have H := H1
      clear H1
      by_cases c6 : a0_0.toList = ([] : List UInt8)
      · rw [if_pos c6] at H
        have c6b0 : (a0_0.toList == ([] : List UInt8)) = true := beq_iff_eq.mpr c6
        have c6b1 : (a0_0.toList != ([] : List UInt8)) = false := bne_eq_false_iff_eq.mpr c6
        clear c6
        (first | rw [c6b0] | (simp only [i64_w, i32_w]; rw [c6b0]) | skip)
        replace H := Option.bind_eq_some_iff.mp H
        obtain ⟨t105, A70, H⟩ := H
        replace H : (spec_TokenKnown.j0 k (!t105) a0_0 a0_1 false) = some r := H
        have A7 := Aside0.mk A70
        clear A70
        have H' := Aside0.mk H
        clear H
        have hcz8_0 : w3.cell? ⟨gb104, 0, none⟩ = some (.string a0_0) := (blk_cell BK104.out 0).trans rfl
        have hcz8_1 : w3.cell? ⟨gb104, 1, none⟩ = some (.string a0_1) := (blk_cell BK104.out 1).trans rfl
        have hcz8_2 : w3.cell? ⟨gb104, 2, none⟩ = some (.bool false) := (blk_cell BK104.out 2).trans rfl
        have hfz8_0 := blk_frozen BK104.out 0
        have hfz8_1 := blk_frozen BK104.out 1
        have hfz8_2 := blk_frozen BK104.out 2
        go_wp2_with (first | (go_at_call 57; (with_reducible refine (spec_Ascii.calls k a0_1 t105 _ A7.out).mono ?_); rintro e w' ⟨rfl, ⟨nd, rfl⟩⟩))
        go_meet
        case rel => exact ⟨_, (!t105), (by first | rfl | (simp; done) | (simp [*]; done) | (simp [bne_nil_]; done)), H', ⟨by first | omega | exact Nat.le_refl _⟩, ⟨by (with_reducible repeat (first | refine blk_drewN ?_ _ | refine blk_drew ?_ | refine blk_alloc ?_ _)); exact BK104.out⟩, ⟨by repeat (first | (with_reducible first | exact HB.out | apply below_alloc | apply pw_below_drewN | apply below_drew1 | refine below_set ?_ GE104.out) | exact HB.out)⟩⟩
      · rw [if_neg c6] at H
        have c6b0 : (a0_0.toList == ([] : List UInt8)) = false := beq_eq_false_iff_ne.mpr c6
        have c6b1 : (a0_0.toList != ([] : List UInt8)) = true := bne_iff_ne.mpr c6
        (first | rw [c6b0] | (simp only [i64_w, i32_w]; rw [c6b0]) | skip)
        by_cases c9 : a0_0.toList = ([46] : List UInt8)
        · rw [if_pos c9] at H
          have c9b0 : (a0_0.toList == ([46] : List UInt8)) = true := beq_iff_eq.mpr c9
          have c9b1 : (a0_0.toList != ([46] : List UInt8)) = false := bne_eq_false_iff_eq.mpr c9
          clear c9
          replace H := Option.bind_eq_some_iff.mp H
          obtain ⟨t106, A100, H⟩ := H
          replace H : (spec_TokenKnown.j0 k (!t106) a0_0 a0_1 false) = some r := H
          have A10 := Aside0.mk A100
          clear A100
          have H' := Aside0.mk H
          clear H
          have hcz11_0 : w3.cell? ⟨gb104, 0, none⟩ = some (.string a0_0) := (blk_cell BK104.out 0).trans rfl
          have hcz11_1 : w3.cell? ⟨gb104, 1, none⟩ = some (.string a0_1) := (blk_cell BK104.out 1).trans rfl
          have hcz11_2 : w3.cell? ⟨gb104, 2, none⟩ = some (.bool false) := (blk_cell BK104.out 2).trans rfl
          have hfz11_0 := blk_frozen BK104.out 0
          have hfz11_1 := blk_frozen BK104.out 1
          have hfz11_2 := blk_frozen BK104.out 2
          go_wp2_with (first | (go_at_call 57; (with_reducible refine (spec_Ascii.calls k a0_1 t106 _ A10.out).mono ?_); rintro e w' ⟨rfl, ⟨nd, rfl⟩⟩))
          go_meet
          case rel => exact ⟨_, (!t106), (by first | rfl | (simp; done) | (simp [*]; done) | (simp [bne_nil_]; done)), H', ⟨by first | omega | exact Nat.le_refl _⟩, ⟨by (with_reducible repeat (first | refine blk_drewN ?_ _ | refine blk_drew ?_ | refine blk_alloc ?_ _)); exact BK104.out⟩, ⟨by repeat (first | (with_reducible first | exact HB.out | apply below_alloc | apply pw_below_drewN | apply below_drew1 | refine below_set ?_ GE104.out) | exact HB.out)⟩⟩
        · rw [if_neg c9] at H
          have c9b0 : (a0_0.toList == ([46] : List UInt8)) = false := beq_eq_false_iff_ne.mpr c9
          have c9b1 : (a0_0.toList != ([46] : List UInt8)) = true := bne_iff_ne.mpr c9
          by_cases c12 : a0_0.toList = ([45] : List UInt8)
          · rw [if_pos c12] at H
            have c12b0 : (a0_0.toList == ([45] : List UInt8)) = true := beq_iff_eq.mpr c12
            have c12b1 : (a0_0.toList != ([45] : List UInt8)) = false := bne_eq_false_iff_eq.mpr c12
            clear c12
            replace H := Option.bind_eq_some_iff.mp H
            obtain ⟨t107, A130, H⟩ := H
            replace H : (spec_TokenKnown.j0 k (!t107) a0_0 a0_1 false) = some r := H
            have A13 := Aside0.mk A130
            clear A130
            have H' := Aside0.mk H
            clear H
            have hcz14_0 : w3.cell? ⟨gb104, 0, none⟩ = some (.string a0_0) := (blk_cell BK104.out 0).trans rfl
            have hcz14_1 : w3.cell? ⟨gb104, 1, none⟩ = some (.string a0_1) := (blk_cell BK104.out 1).trans rfl
            have hcz14_2 : w3.cell? ⟨gb104, 2, none⟩ = some (.bool false) := (blk_cell BK104.out 2).trans rfl
            have hfz14_0 := blk_frozen BK104.out 0
            have hfz14_1 := blk_frozen BK104.out 1
            have hfz14_2 := blk_frozen BK104.out 2
            go_wp2_with (first | (go_at_call 57; (with_reducible refine (spec_Ascii.calls k a0_1 t107 _ A13.out).mono ?_); rintro e w' ⟨rfl, ⟨nd, rfl⟩⟩))
            go_meet
            case rel => exact ⟨_, (!t107), (by first | rfl | (simp; done) | (simp [*]; done) | (simp [bne_nil_]; done)), H', ⟨by first | omega | exact Nat.le_refl _⟩, ⟨by (with_reducible repeat (first | refine blk_drewN ?_ _ | refine blk_drew ?_ | refine blk_alloc ?_ _)); exact BK104.out⟩, ⟨by repeat (first | (with_reducible first | exact HB.out | apply below_alloc | apply pw_below_drewN | apply below_drew1 | refine below_set ?_ GE104.out) | exact HB.out)⟩⟩
          · rw [if_neg c12] at H
            have c12b0 : (a0_0.toList == ([45] : List UInt8)) = false := beq_eq_false_iff_ne.mpr c12
            have c12b1 : (a0_0.toList != ([45] : List UInt8)) = true := bne_iff_ne.mpr c12
            have H' := Aside0.mk H
            clear H
            have hcz15_0 : w3.cell? ⟨gb104, 0, none⟩ = some (.string a0_0) := (blk_cell BK104.out 0).trans rfl
            have hcz15_1 : w3.cell? ⟨gb104, 1, none⟩ = some (.string a0_1) := (blk_cell BK104.out 1).trans rfl
            have hcz15_2 : w3.cell? ⟨gb104, 2, none⟩ = some (.bool false) := (blk_cell BK104.out 2).trans rfl
            have hfz15_0 := blk_frozen BK104.out 0
            have hfz15_1 := blk_frozen BK104.out 1
            have hfz15_2 := blk_frozen BK104.out 2
            go_wp2
            go_meet
            case rel => exact ⟨_, (true), (by first | rfl | (simp; done) | (simp [*]; done) | (simp [bne_nil_]; done)), H', ⟨by first | omega | exact Nat.le_refl _⟩, ⟨by (with_reducible repeat (first | refine blk_drewN ?_ _ | refine blk_drew ?_ | refine blk_alloc ?_ _)); exact BK104.out⟩, ⟨by repeat (first | (with_reducible first | exact HB.out | apply below_alloc | apply pw_below_drewN | apply below_drew1 | refine below_set ?_ GE104.out) | exact HB.out)⟩⟩
  case rest =>
    clear HC2
    try clear c1
    try clear p2
    try clear c4
    try clear c6
    try clear c6b0
    try clear c6b1
    try clear c9
    try clear c9b0
    try clear c9b1
    try clear c12
    try clear c12b0
    try clear c12b1
    try clear hcz11_0
    try clear hcz11_1
    try clear hcz11_2
    try clear hcz14_0
    try clear hcz14_1
    try clear hcz14_2
    try clear hcz15_0
    try clear hcz15_1
    try clear hcz15_2
    try clear hcz5_0
    try clear hcz5_1
    try clear hcz5_2
    try clear hcz8_0
    try clear hcz8_1
    try clear hcz8_2
    try clear hfz11_0
    try clear hfz11_1
    try clear hfz11_2
    try clear hfz14_0
    try clear hfz14_1
    try clear hfz14_2
    try clear hfz15_0
    try clear hfz15_1
    try clear hfz15_2
    try clear hfz5_0
    try clear hfz5_1
    try clear hfz5_2
    try clear hfz8_0
    try clear hfz8_1
    try clear hfz8_2
    obtain ⟨kq, x25_1, rfl, HA, HJ1, BK104, HB⟩ := hcut
    cases kq with
    | zero => exact absurd HA.out (by simp [spec_TokenKnown.j0])
    | succ kj1 =>
      have H := HA.out
      clear HA
      simp only [spec_TokenKnown.j0] at H
      by_cases c16 : x25_1 = true
      · subst c16
        have H1 : (some false) = some r := by rw [if_pos rfl] at H; exact H
        clear H
        have H := H1
        clear H1
        obtain rfl := Option.some.inj H
        go_wp2
        go_ret
        exact ⟨by first | rfl | (simp [errW_none, errW_some] <;> rfl) | (simp [*, errW_none, errW_some] <;> rfl) | (simp [bne_nil_]; done), by repeat (first | (with_reducible first | exact HB.out | apply below_alloc | apply pw_below_drewN | apply below_drew1 | refine below_set ?_ GE104.out) | exact HB.out)⟩
      · replace c16 := Bool.eq_false_iff.mpr c16
        subst c16
        have H1 : ((spec_allDigits.f kj1 a0_1).bind fun t108 => (if t108 = true then (if (a0_1.size : Int) = 1 then (some true) else (if 0 < (a0_1.size : Int) then (some ((bt a0_1 0) != 48)) else (none))) else ((spec_mavenLetters.f a0_1).bind fun t109 => (some t109)))) = some r := by rw [if_neg (show ¬ (false = true) by decide)] at H; exact H
        clear H
        have H := H1
        clear H1
        replace H := Option.bind_eq_some_iff.mp H
        obtain ⟨t108, A170, H⟩ := H
        replace H : (if t108 = true then (if (a0_1.size : Int) = 1 then (some true) else (if 0 < (a0_1.size : Int) then (some ((bt a0_1 0) != 48)) else (none))) else ((spec_mavenLetters.f a0_1).bind fun t109 => (some t109))) = some r := H
        have A17 := Aside0.mk A170
        clear A170
        by_cases c18 : t108 = true
        · subst c18
          have H1 : (if (a0_1.size : Int) = 1 then (some true) else (if 0 < (a0_1.size : Int) then (some ((bt a0_1 0) != 48)) else (none))) = some r := by rw [if_pos rfl] at H; exact H
          clear H
          have H := H1
          clear H1
          by_cases c19 : (a0_1.size : Int) = 1
          · rw [if_pos c19] at H
            have c19b0 : ((a0_1.size : Int) == 1) = true := beq_iff_eq.mpr c19
            have c19b1 : ((a0_1.size : Int) != 1) = false := bne_eq_false_iff_eq.mpr c19
            clear c19
            obtain rfl := Option.some.inj H
            have hcz20_0 : wc.cell? ⟨gb104, 0, none⟩ = some (.string a0_0) := (blk_cell BK104.out 0).trans rfl
            have hcz20_1 : wc.cell? ⟨gb104, 1, none⟩ = some (.string a0_1) := (blk_cell BK104.out 1).trans rfl
            have hcz20_2 : wc.cell? ⟨gb104, 2, none⟩ = some (.bool a0_2) := (blk_cell BK104.out 2).trans rfl
            have hfz20_0 := blk_frozen BK104.out 0
            have hfz20_1 := blk_frozen BK104.out 1
            have hfz20_2 := blk_frozen BK104.out 2
            go_wp2_with (first | ((with_reducible refine gate_callee (f := 58) rfl ?_); refine goesL_ (some 28) rfl rfl Tryd.func58 (by kernel_rfl) rfl #[.string a0_1] rfl (by (try simp only [List.map_toArray, List.map_cons, List.map_nil]); first | done | rfl | (simp only [List.length_drop, List.length_take]; rfl)) ?_; (with_reducible refine (spec_allDigits.calls kj1 a0_1 true _ A17.out).mono ?_); rintro e w' ⟨rfl, ⟨nd, rfl⟩⟩; refine ⟨_, rfl, ?_⟩))
            go_ret
            exact ⟨by first | rfl | (simp [errW_none, errW_some] <;> rfl) | (simp [*, errW_none, errW_some] <;> rfl) | (simp [bne_nil_]; done), by repeat (first | (with_reducible first | exact HB.out | apply below_alloc | apply pw_below_drewN | apply below_drew1 | refine below_set ?_ GE104.out) | exact HB.out)⟩
          · rw [if_neg c19] at H
            have c19b0 : ((a0_1.size : Int) == 1) = false := beq_eq_false_iff_ne.mpr c19
            have c19b1 : ((a0_1.size : Int) != 1) = true := bne_iff_ne.mpr c19
            by_cases c21 : 0 < (a0_1.size : Int)
            · rw [if_pos c21] at H
              have c21b0 : decide (0 < (a0_1.size : Int)) = true := decide_eq_true c21
              have c21b1 : decide (0 < a0_1.size) = true := decide_eq_true (by omega)
              clear c21
              obtain rfl := Option.some.inj H
              have hcz23_0 : wc.cell? ⟨gb104, 0, none⟩ = some (.string a0_0) := (blk_cell BK104.out 0).trans rfl
              have hcz23_1 : wc.cell? ⟨gb104, 1, none⟩ = some (.string a0_1) := (blk_cell BK104.out 1).trans rfl
              have hcz23_2 : wc.cell? ⟨gb104, 2, none⟩ = some (.bool a0_2) := (blk_cell BK104.out 2).trans rfl
              have hfz23_0 := blk_frozen BK104.out 0
              have hfz23_1 := blk_frozen BK104.out 1
              have hfz23_2 := blk_frozen BK104.out 2
              go_wp2_with (first | ((with_reducible refine gate_callee (f := 58) rfl ?_); refine goesL_ (some 28) rfl rfl Tryd.func58 (by kernel_rfl) rfl #[.string a0_1] rfl (by (try simp only [List.map_toArray, List.map_cons, List.map_nil]); first | done | rfl | (simp only [List.length_drop, List.length_take]; rfl)) ?_; (with_reducible refine (spec_allDigits.calls kj1 a0_1 true _ A17.out).mono ?_); rintro e w' ⟨rfl, ⟨nd, rfl⟩⟩; refine ⟨_, rfl, ?_⟩; have p22 : 0 ≤ (0 : Int) := (by omega); have q22 : 0 < a0_1.size := (by have : (0 : Int) < (a0_1.size : Int) := of_decide_eq_true (by first | (with_reducible assumption) | assumption); omega); have hx22 : ∀ h : 0 < a0_1.size, ((a0_1[0]'h).toNat : Int) = bt a0_1 0 := bt_at a0_1 0; clear p22; have qi22 : (0 < (a0_1.size : Int)) = True := eq_true (of_decide_eq_true (by first | (with_reducible assumption) | assumption)); replace q22 := eq_true q22))
              go_ret
              exact ⟨by first | rfl | (simp [errW_none, errW_some] <;> rfl) | (simp [*, errW_none, errW_some] <;> rfl) | (simp [bne_nil_]; done), by repeat (first | (with_reducible first | exact HB.out | apply below_alloc | apply pw_below_drewN | apply below_drew1 | refine below_set ?_ GE104.out) | exact HB.out)⟩
            · rw [if_neg c21] at H
              exact absurd H (by simp)
        · replace c18 := Bool.eq_false_iff.mpr c18
          subst c18
          have H1 : ((spec_mavenLetters.f a0_1).bind fun t109 => (some t109)) = some r := by rw [if_neg (show ¬ (false = true) by decide)] at H; exact H
          clear H
          have H := H1
          clear H1
          replace H := Option.bind_eq_some_iff.mp H
          obtain ⟨t109, A240, H⟩ := H
          replace H : (some t109) = some r := H
          have A24 := Aside0.mk A240
          clear A240
          obtain rfl := Option.some.inj H
          have hcz25_0 : wc.cell? ⟨gb104, 0, none⟩ = some (.string a0_0) := (blk_cell BK104.out 0).trans rfl
          have hcz25_1 : wc.cell? ⟨gb104, 1, none⟩ = some (.string a0_1) := (blk_cell BK104.out 1).trans rfl
          have hcz25_2 : wc.cell? ⟨gb104, 2, none⟩ = some (.bool a0_2) := (blk_cell BK104.out 2).trans rfl
          have hfz25_0 := blk_frozen BK104.out 0
          have hfz25_1 := blk_frozen BK104.out 1
          have hfz25_2 := blk_frozen BK104.out 2
          go_wp2_with (first | ((with_reducible refine gate_callee (f := 58) rfl ?_); refine goesL_ (some 28) rfl rfl Tryd.func58 (by kernel_rfl) rfl #[.string a0_1] rfl (by (try simp only [List.map_toArray, List.map_cons, List.map_nil]); first | done | rfl | (simp only [List.length_drop, List.length_take]; rfl)) ?_; (with_reducible refine (spec_allDigits.calls kj1 a0_1 false _ A17.out).mono ?_); rintro e w' ⟨rfl, ⟨nd, rfl⟩⟩; refine ⟨_, rfl, ?_⟩) | ((with_reducible refine gate_callee (f := 59) rfl ?_); refine goesL_ (some 41) rfl rfl Tryd.func59 (by kernel_rfl) rfl #[.string a0_1] rfl (by (try simp only [List.map_toArray, List.map_cons, List.map_nil]); first | done | rfl | (simp only [List.length_drop, List.length_take]; rfl)) ?_; (with_reducible refine (spec_mavenLetters.calls a0_1 t109 _ A24.out).mono ?_); rintro e w' ⟨rfl, ⟨nd, rfl⟩⟩; refine ⟨_, rfl, ?_⟩))
          go_ret
          exact ⟨by first | rfl | (simp [errW_none, errW_some] <;> rfl) | (simp [*, errW_none, errW_some] <;> rfl) | (simp [bne_nil_]; done), by repeat (first | (with_reducible first | exact HB.out | apply below_alloc | apply pw_below_drewN | apply below_drew1 | refine below_set ?_ GE104.out) | exact HB.out)⟩

-- LEFT OUT: function 100

-- LEFT OUT: function 186

-- LEFT OUT: function 196

-- LEFT OUT: function 205

-- LEFT OUT: function 194

-- LEFT OUT: function 219

-- LEFT OUT: function 242

-- LEFT OUT: function 243

-- LEFT OUT: function 235

-- LEFT OUT: function 244

-- LEFT OUT: function 245

-- LEFT OUT: function 236

-- LEFT OUT: function 230

-- LEFT OUT: function 227

-- LEFT OUT: function 220

-- LEFT OUT: function 206

-- LEFT OUT: function 207

-- LEFT OUT: function 208

-- LEFT OUT: function 197

-- LEFT OUT: function 221

-- LEFT OUT: function 222

-- LEFT OUT: function 228

-- LEFT OUT: function 223

-- LEFT OUT: function 209

-- LEFT OUT: function 187

-- LEFT OUT: function 162

-- LEFT OUT: function 140

-- LEFT OUT: function 141

-- LEFT OUT: function 120

-- LEFT OUT: function 127

-- LEFT OUT: function 101

-- LEFT OUT: function 60

-- GIVEN: function 17 (impl_TokenOrder)

/-! ### spec_TokenOrder: function 18 -/
mutual
def spec_TokenOrder.j0 : Nat → Bool → Bool → ByteArray → ByteArray → Bool → Option (Int × Bool)
  | 0, _, _, _, _, _ => none
  | k + 1, x4, x8, x111000, x111001, x111002 => if x8 = true then (some (3, true)) else (if x111000.toList = ([46] : List UInt8) then (spec_TokenOrder.j1 k x4 (!x4) x111000 x111001 x111002) else (spec_TokenOrder.j1 k x4 false x111000 x111001 x111002))
def spec_TokenOrder.j1 : Nat → Bool → Bool → ByteArray → ByteArray → Bool → Option (Int × Bool)
  | 0, _, _, _, _, _ => none
  | k + 1, x4, x15, x111000, x111001, x111002 => if x15 = true then (some (0, true)) else (if x111000.toList = ([45] : List UInt8) then (spec_TokenOrder.j2 k x4 x111000 x111001 x111002) else (spec_TokenOrder.j2 k false x111000 x111001 x111002))
def spec_TokenOrder.j2 : Nat → Bool → ByteArray → ByteArray → Bool → Option (Int × Bool)
  | 0, _, _, _, _ => none
  | k + 1, x23, x111000, x111001, x111002 => if x23 = true then (some (2, true)) else (if x111000.toList = ([45] : List UInt8) then (some (1, true)) else (some (0, false)))
end
def spec_TokenOrder.f (k : Nat) (a0_0 : ByteArray) (a0_1 : ByteArray) (a0_2 : Bool) : Option (Int × Bool) := (spec_allDigits.f k a0_1).bind fun t111 => (if a0_0.toList = ([46] : List UInt8) then (spec_TokenOrder.j0 k t111 t111 a0_0 a0_1 a0_2) else (spec_TokenOrder.j0 k t111 false a0_0 a0_1 a0_2))
theorem spec_TokenOrder.mono_l : ∀ k, (∀ y0 y1 y2 y3 y4, LeO (spec_TokenOrder.j0 k y0 y1 y2 y3 y4) (spec_TokenOrder.j0 (k + 1) y0 y1 y2 y3 y4)) ∧ (∀ y0 y1 y2 y3 y4, LeO (spec_TokenOrder.j1 k y0 y1 y2 y3 y4) (spec_TokenOrder.j1 (k + 1) y0 y1 y2 y3 y4)) ∧ (∀ y0 y1 y2 y3, LeO (spec_TokenOrder.j2 k y0 y1 y2 y3) (spec_TokenOrder.j2 (k + 1) y0 y1 y2 y3))
  | 0 => ⟨fun _ _ _ _ _ r h => by simp [spec_TokenOrder.j0] at h, fun _ _ _ _ _ r h => by simp [spec_TokenOrder.j1] at h, fun _ _ _ _ r h => by simp [spec_TokenOrder.j2] at h⟩
  | k + 1 => by
    obtain ⟨ih0, ih1, ih2⟩ := spec_TokenOrder.mono_l k
    refine ⟨?_, ?_, ?_⟩
    · intro y0 y1 y2 y3 y4
      unfold spec_TokenOrder.j0
      repeat' first
      | (with_reducible exact ih0 _ _ _ _ _)
      | (with_reducible exact ih1 _ _ _ _ _)
      | (with_reducible exact ih2 _ _ _ _)
      | (with_reducible exact spec_allDigits.mono _ _)
      | (with_reducible exact LeO.refl _)
      | (with_reducible exact LeO.none _)
      | (with_reducible refine LeO.ite ?_ ?_)
      | (with_reducible refine LeO.bind ?_ (fun _ => ?_))
      | exact ih0 _ _ _ _ _
      | exact ih1 _ _ _ _ _
      | exact ih2 _ _ _ _
      | exact spec_allDigits.mono _ _
      | exact LeO.none _
      | refine LeO.ite ?_ ?_
      | refine LeO.bind ?_ (fun _ => ?_)
    · intro y0 y1 y2 y3 y4
      unfold spec_TokenOrder.j1
      repeat' first
      | (with_reducible exact ih0 _ _ _ _ _)
      | (with_reducible exact ih1 _ _ _ _ _)
      | (with_reducible exact ih2 _ _ _ _)
      | (with_reducible exact spec_allDigits.mono _ _)
      | (with_reducible exact LeO.refl _)
      | (with_reducible exact LeO.none _)
      | (with_reducible refine LeO.ite ?_ ?_)
      | (with_reducible refine LeO.bind ?_ (fun _ => ?_))
      | exact ih0 _ _ _ _ _
      | exact ih1 _ _ _ _ _
      | exact ih2 _ _ _ _
      | exact spec_allDigits.mono _ _
      | exact LeO.none _
      | refine LeO.ite ?_ ?_
      | refine LeO.bind ?_ (fun _ => ?_)
    · intro y0 y1 y2 y3
      unfold spec_TokenOrder.j2
      repeat' first
      | (with_reducible exact ih0 _ _ _ _ _)
      | (with_reducible exact ih1 _ _ _ _ _)
      | (with_reducible exact ih2 _ _ _ _)
      | (with_reducible exact spec_allDigits.mono _ _)
      | (with_reducible exact LeO.refl _)
      | (with_reducible exact LeO.none _)
      | (with_reducible refine LeO.ite ?_ ?_)
      | (with_reducible refine LeO.bind ?_ (fun _ => ?_))
      | exact ih0 _ _ _ _ _
      | exact ih1 _ _ _ _ _
      | exact ih2 _ _ _ _
      | exact spec_allDigits.mono _ _
      | exact LeO.none _
      | refine LeO.ite ?_ ?_
      | refine LeO.bind ?_ (fun _ => ?_)
theorem spec_TokenOrder.mono : ∀ a0 a1 a2 k, LeO (spec_TokenOrder.f k a0 a1 a2) (spec_TokenOrder.f (k + 1) a0 a1 a2) := by
  intro a0 a1 a2 k
  obtain ⟨ih0, ih1, ih2⟩ := spec_TokenOrder.mono_l k
  unfold spec_TokenOrder.f
  repeat' first
      | (with_reducible exact ih0 _ _ _ _ _)
      | (with_reducible exact ih1 _ _ _ _ _)
      | (with_reducible exact ih2 _ _ _ _)
      | (with_reducible exact spec_allDigits.mono _ _)
      | (with_reducible exact LeO.refl _)
      | (with_reducible exact LeO.none _)
      | (with_reducible refine LeO.ite ?_ ?_)
      | (with_reducible refine LeO.bind ?_ (fun _ => ?_))
      | exact ih0 _ _ _ _ _
      | exact ih1 _ _ _ _ _
      | exact ih2 _ _ _ _
      | exact spec_allDigits.mono _ _
      | exact LeO.none _
      | refine LeO.ite ?_ ?_
      | refine LeO.bind ?_ (fun _ => ?_)
set_option maxHeartbeats 8000000 in
set_option maxRecDepth 100000 in
theorem spec_TokenOrder.calls (k : Nat) (a0_0 : ByteArray) (a0_1 : ByteArray) (a0_2 : Bool) (r1 : Int) (r2 : Bool) (w : World) (h : spec_TokenOrder.f k a0_0 a0_1 a0_2 = some (r1, r2)) :
    Calls Tryd.prog 18 #[.agg #[.string a0_0, .string a0_1, .bool a0_2]] w fun e w' => e = .returned (.tuple #[.int .i64 r1, .bool r2]) ∧ Below w.heap.size w w' := by
  have hu23 := Tryd.underlying23
  have HB := Aside0.mk (Below.refl w.heap.size w)
  have H : ((spec_allDigits.f k a0_1).bind fun t111 => (if a0_0.toList = ([46] : List UInt8) then (spec_TokenOrder.j0 k t111 t111 a0_0 a0_1 a0_2) else (spec_TokenOrder.j0 k t111 false a0_0 a0_1 a0_2))) = some (r1, r2) := h
  clear h
  replace H := Option.bind_eq_some_iff.mp H
  obtain ⟨t111, A20, H⟩ := H
  replace H : (if a0_0.toList = ([46] : List UInt8) then (spec_TokenOrder.j0 k t111 t111 a0_0 a0_1 a0_2) else (spec_TokenOrder.j0 k t111 false a0_0 a0_1 a0_2)) = some (r1, r2) := H
  have A2 := Aside0.mk A20
  clear A20
  have HC3 := Aside0.mk H
  clear H
  go_enter Tryd.func18, Tryd.ntmps18
  go_upto_region 2 with (first | ((with_reducible refine gate_dst (N := 1) rfl ?_); refine box_event ?hg (N := 1) ?hd (cs := #[.string a0_0, .string a0_1, .bool a0_2]) (t := 23) ?hr ?_; (case hd => rfl); (case hg => rfl); (case hr => first | (go_simp; done) | (go_simp; rfl)); intro gb110 hg w4 hbox hb; have n0_ := Aside0.mk (below_step (by repeat (first | (with_reducible first | exact HB.out | apply below_alloc | apply pw_below_drewN | apply below_drew1) | exact HB.out)) hb); have n1_ := Aside0.mk (hbox); have n2_ := Aside0.mk ((by rw [hg]; exact (below_size (by repeat (first | (with_reducible first | exact HB.out | apply below_alloc | apply pw_below_drewN | apply below_drew1) | exact HB.out))) : w.heap.size ≤ gb110)); have n3_ := Aside0.mk ((by rw [hg]; exact (below_size (by repeat (first | (with_reducible first | exact HB.out | apply below_alloc | apply pw_below_drewN | apply below_drew1) | exact HB.out))) : w.heap.size ≤ gb110)); clear HB; have HB := n0_; have BK110 := n1_; have GW110 := n2_; have GE110 := n3_; clear n0_ n1_ n2_ n3_; clear hb hbox hg; have hcz5_0 : w4.cell? ⟨gb110, 0, none⟩ = some (.string a0_0) := (blk_cell BK110.out 0).trans rfl; have hcz5_1 : w4.cell? ⟨gb110, 1, none⟩ = some (.string a0_1) := (blk_cell BK110.out 1).trans rfl; have hcz5_2 : w4.cell? ⟨gb110, 2, none⟩ = some (.bool a0_2) := (blk_cell BK110.out 2).trans rfl; have hfz5_0 := blk_frozen BK110.out 0; have hfz5_1 := blk_frozen BK110.out 1; have hfz5_2 := blk_frozen BK110.out 2) | ((with_reducible refine gate_callee (f := 58) rfl ?_); refine goesL_ (some 7) rfl rfl Tryd.func58 (by kernel_rfl) rfl #[.string a0_1] rfl (by (try simp only [List.map_toArray, List.map_cons, List.map_nil]); first | done | rfl | (simp only [List.length_drop, List.length_take]; rfl)) ?_; (with_reducible refine (spec_allDigits.calls k a0_1 t111 _ A2.out).mono ?_); rintro e w' ⟨rfl, ⟨nd, rfl⟩⟩; refine ⟨_, rfl, ?_⟩))
  (try simp only [Act.put, List.setIfInBounds_toArray, List.set_cons_zero, List.set_cons_succ])
  go_cut [8] (fun v8 wc => ∃ (kq : Nat) (x8_2 : Bool), v8 = .bool x8_2 ∧ Aside0 (spec_TokenOrder.j0 kq t111 x8_2 a0_0 a0_1 a0_2 = some (r1, r2)) ∧ Aside0 (kq ≤ k) ∧ Aside0 (wc.heap[gb110]? = some (.cells #[.string a0_0, .string a0_1, .bool a0_2] 23 (0, 0))) ∧ Aside0 (Below w.heap.size w wc))
  case first =>
    have H := HC3.out
    clear HC3
    by_cases c6 : a0_0.toList = ([46] : List UInt8)
    · rw [if_pos c6] at H
      have c6b0 : (a0_0.toList == ([46] : List UInt8)) = true := beq_iff_eq.mpr c6
      have c6b1 : (a0_0.toList != ([46] : List UInt8)) = false := bne_eq_false_iff_eq.mpr c6
      clear c6
      (first | rw [c6b0] | (simp only [i64_w, i32_w]; rw [c6b0]) | skip)
      have H' := Aside0.mk H
      clear H
      have hcz7_0 : w4.cell? ⟨gb110, 0, none⟩ = some (.string a0_0) := (blk_cell BK110.out 0).trans rfl
      have hcz7_1 : w4.cell? ⟨gb110, 1, none⟩ = some (.string a0_1) := (blk_cell BK110.out 1).trans rfl
      have hcz7_2 : w4.cell? ⟨gb110, 2, none⟩ = some (.bool a0_2) := (blk_cell BK110.out 2).trans rfl
      have hfz7_0 := blk_frozen BK110.out 0
      have hfz7_1 := blk_frozen BK110.out 1
      have hfz7_2 := blk_frozen BK110.out 2
      go_wp2
      go_meet
      case rel => exact ⟨_, (t111), (by first | rfl | (simp; done) | (simp [*]; done) | (simp [bne_nil_]; done)), H', ⟨by first | omega | exact Nat.le_refl _⟩, ⟨by (with_reducible repeat (first | refine blk_drewN ?_ _ | refine blk_drew ?_ | refine blk_alloc ?_ _)); exact BK110.out⟩, ⟨by repeat (first | (with_reducible first | exact HB.out | apply below_alloc | apply pw_below_drewN | apply below_drew1 | refine below_set ?_ GE110.out) | exact HB.out)⟩⟩
    · rw [if_neg c6] at H
      have c6b0 : (a0_0.toList == ([46] : List UInt8)) = false := beq_eq_false_iff_ne.mpr c6
      have c6b1 : (a0_0.toList != ([46] : List UInt8)) = true := bne_iff_ne.mpr c6
      (first | rw [c6b0] | (simp only [i64_w, i32_w]; rw [c6b0]) | skip)
      have H' := Aside0.mk H
      clear H
      have hcz8_0 : w4.cell? ⟨gb110, 0, none⟩ = some (.string a0_0) := (blk_cell BK110.out 0).trans rfl
      have hcz8_1 : w4.cell? ⟨gb110, 1, none⟩ = some (.string a0_1) := (blk_cell BK110.out 1).trans rfl
      have hcz8_2 : w4.cell? ⟨gb110, 2, none⟩ = some (.bool a0_2) := (blk_cell BK110.out 2).trans rfl
      have hfz8_0 := blk_frozen BK110.out 0
      have hfz8_1 := blk_frozen BK110.out 1
      have hfz8_2 := blk_frozen BK110.out 2
      go_wp2
      go_meet
      case rel => exact ⟨_, (false), (by first | rfl | (simp; done) | (simp [*]; done) | (simp [bne_nil_]; done)), H', ⟨by first | omega | exact Nat.le_refl _⟩, ⟨by (with_reducible repeat (first | refine blk_drewN ?_ _ | refine blk_drew ?_ | refine blk_alloc ?_ _)); exact BK110.out⟩, ⟨by repeat (first | (with_reducible first | exact HB.out | apply below_alloc | apply pw_below_drewN | apply below_drew1 | refine below_set ?_ GE110.out) | exact HB.out)⟩⟩
  case rest =>
    clear HC3
    try clear c1
    try clear p2
    try clear c5
    try clear c6
    try clear c6b0
    try clear c6b1
    try clear hcz5_0
    try clear hcz5_1
    try clear hcz5_2
    try clear hcz7_0
    try clear hcz7_1
    try clear hcz7_2
    try clear hcz8_0
    try clear hcz8_1
    try clear hcz8_2
    try clear hfz5_0
    try clear hfz5_1
    try clear hfz5_2
    try clear hfz7_0
    try clear hfz7_1
    try clear hfz7_2
    try clear hfz8_0
    try clear hfz8_1
    try clear hfz8_2
    obtain ⟨kq, x8_2, rfl, HA, HJ2, BK110, HB⟩ := hcut
    cases kq with
    | zero => exact absurd HA.out (by simp [spec_TokenOrder.j0])
    | succ kj2 =>
      have H := HA.out
      clear HA
      simp only [spec_TokenOrder.j0] at H
      by_cases c9 : x8_2 = true
      · subst c9
        have H1 : (some (3, true)) = some (r1, r2) := by rw [if_pos rfl] at H; exact H
        clear H
        have H := H1
        clear H1
        simp only [Option.some.injEq, Prod.mk.injEq] at H
        obtain ⟨rfl, rfl⟩ := H
        go_wp2
        go_ret2
        exact ⟨by first | rfl | (simp [errW_none, errW_some] <;> rfl) | (simp [*, errW_none, errW_some] <;> rfl) | (simp [bne_nil_]; done), by repeat (first | (with_reducible first | exact HB.out | apply below_alloc | apply pw_below_drewN | apply below_drew1 | refine below_set ?_ GE110.out) | exact HB.out)⟩
      · replace c9 := Bool.eq_false_iff.mpr c9
        subst c9
        have H1 : (if a0_0.toList = ([46] : List UInt8) then (spec_TokenOrder.j1 kj2 t111 (!t111) a0_0 a0_1 a0_2) else (spec_TokenOrder.j1 kj2 t111 false a0_0 a0_1 a0_2)) = some (r1, r2) := by rw [if_neg (show ¬ (false = true) by decide)] at H; exact H
        clear H
        have H := H1
        clear H1
        have HC10 := Aside0.mk H
        clear H
        go_upto_region 4 with (fail)
        go_cut [15] (fun v15 wc => ∃ (kq : Nat) (x15_9 : Bool), v15 = .bool x15_9 ∧ Aside0 (spec_TokenOrder.j1 kq t111 x15_9 a0_0 a0_1 a0_2 = some (r1, r2)) ∧ Aside0 (kq ≤ kj2) ∧ Aside0 (wc.heap[gb110]? = some (.cells #[.string a0_0, .string a0_1, .bool a0_2] 23 (0, 0))) ∧ Aside0 (Below w.heap.size w wc))
        case first =>
          have H := HC10.out
          clear HC10
          by_cases c11 : a0_0.toList = ([46] : List UInt8)
          · rw [if_pos c11] at H
            have c11b0 : (a0_0.toList == ([46] : List UInt8)) = true := beq_iff_eq.mpr c11
            have c11b1 : (a0_0.toList != ([46] : List UInt8)) = false := bne_eq_false_iff_eq.mpr c11
            clear c11
            (first | rw [c11b0] | (simp only [i64_w, i32_w]; rw [c11b0]) | skip)
            have H' := Aside0.mk H
            clear H
            have hcz12_0 : wc.cell? ⟨gb110, 0, none⟩ = some (.string a0_0) := (blk_cell BK110.out 0).trans rfl
            have hcz12_1 : wc.cell? ⟨gb110, 1, none⟩ = some (.string a0_1) := (blk_cell BK110.out 1).trans rfl
            have hcz12_2 : wc.cell? ⟨gb110, 2, none⟩ = some (.bool a0_2) := (blk_cell BK110.out 2).trans rfl
            have hfz12_0 := blk_frozen BK110.out 0
            have hfz12_1 := blk_frozen BK110.out 1
            have hfz12_2 := blk_frozen BK110.out 2
            go_wp2
            go_meet
            case rel => exact ⟨_, (!t111), (by first | rfl | (simp; done) | (simp [*]; done) | (simp [bne_nil_]; done)), H', ⟨by have := HJ2.out; first | omega | exact Nat.le_refl _⟩, ⟨by (with_reducible repeat (first | refine blk_drewN ?_ _ | refine blk_drew ?_ | refine blk_alloc ?_ _)); exact BK110.out⟩, ⟨by repeat (first | (with_reducible first | exact HB.out | apply below_alloc | apply pw_below_drewN | apply below_drew1 | refine below_set ?_ GE110.out) | exact HB.out)⟩⟩
          · rw [if_neg c11] at H
            have c11b0 : (a0_0.toList == ([46] : List UInt8)) = false := beq_eq_false_iff_ne.mpr c11
            have c11b1 : (a0_0.toList != ([46] : List UInt8)) = true := bne_iff_ne.mpr c11
            (first | rw [c11b0] | (simp only [i64_w, i32_w]; rw [c11b0]) | skip)
            have H' := Aside0.mk H
            clear H
            have hcz13_0 : wc.cell? ⟨gb110, 0, none⟩ = some (.string a0_0) := (blk_cell BK110.out 0).trans rfl
            have hcz13_1 : wc.cell? ⟨gb110, 1, none⟩ = some (.string a0_1) := (blk_cell BK110.out 1).trans rfl
            have hcz13_2 : wc.cell? ⟨gb110, 2, none⟩ = some (.bool a0_2) := (blk_cell BK110.out 2).trans rfl
            have hfz13_0 := blk_frozen BK110.out 0
            have hfz13_1 := blk_frozen BK110.out 1
            have hfz13_2 := blk_frozen BK110.out 2
            go_wp2
            go_meet
            case rel => exact ⟨_, (false), (by first | rfl | (simp; done) | (simp [*]; done) | (simp [bne_nil_]; done)), H', ⟨by have := HJ2.out; first | omega | exact Nat.le_refl _⟩, ⟨by (with_reducible repeat (first | refine blk_drewN ?_ _ | refine blk_drew ?_ | refine blk_alloc ?_ _)); exact BK110.out⟩, ⟨by repeat (first | (with_reducible first | exact HB.out | apply below_alloc | apply pw_below_drewN | apply below_drew1 | refine below_set ?_ GE110.out) | exact HB.out)⟩⟩
        case rest =>
          clear HC10
          try clear c1
          try clear p2
          try clear c5
          try clear c6
          try clear c6b0
          try clear c6b1
          try clear c9
          try clear c11
          try clear c11b0
          try clear c11b1
          try clear hcz12_0
          try clear hcz12_1
          try clear hcz12_2
          try clear hcz13_0
          try clear hcz13_1
          try clear hcz13_2
          try clear hcz5_0
          try clear hcz5_1
          try clear hcz5_2
          try clear hcz7_0
          try clear hcz7_1
          try clear hcz7_2
          try clear hcz8_0
          try clear hcz8_1
          try clear hcz8_2
          try clear hfz12_0
          try clear hfz12_1
          try clear hfz12_2
          try clear hfz13_0
          try clear hfz13_1
          try clear hfz13_2
          try clear hfz5_0
          try clear hfz5_1
          try clear hfz5_2
          try clear hfz7_0
          try clear hfz7_1
          try clear hfz7_2
          try clear hfz8_0
          try clear hfz8_1
          try clear hfz8_2
          try clear p2
          obtain ⟨kq, x15_9, rfl, HA, HJ9, BK110, HB⟩ := hcut
          cases kq with
          | zero => exact absurd HA.out (by simp [spec_TokenOrder.j1])
          | succ kj9 =>
            have H := HA.out
            clear HA
            simp only [spec_TokenOrder.j1] at H
            by_cases c14 : x15_9 = true
            · subst c14
              have H1 : (some (0, true)) = some (r1, r2) := by rw [if_pos rfl] at H; exact H
              clear H
              have H := H1
              clear H1
              simp only [Option.some.injEq, Prod.mk.injEq] at H
              obtain ⟨rfl, rfl⟩ := H
              go_wp2
              go_ret2
              exact ⟨by first | rfl | (simp [errW_none, errW_some] <;> rfl) | (simp [*, errW_none, errW_some] <;> rfl) | (simp [bne_nil_]; done), by repeat (first | (with_reducible first | exact HB.out | apply below_alloc | apply pw_below_drewN | apply below_drew1 | refine below_set ?_ GE110.out) | exact HB.out)⟩
            · replace c14 := Bool.eq_false_iff.mpr c14
              subst c14
              have H1 : (if a0_0.toList = ([45] : List UInt8) then (spec_TokenOrder.j2 kj9 t111 a0_0 a0_1 a0_2) else (spec_TokenOrder.j2 kj9 false a0_0 a0_1 a0_2)) = some (r1, r2) := by rw [if_neg (show ¬ (false = true) by decide)] at H; exact H
              clear H
              have H := H1
              clear H1
              have HC15 := Aside0.mk H
              clear H
              go_upto_region 6 with (fail)
              go_cut [23] (fun v23 wc => ∃ (kq : Nat) (x23_14 : Bool), v23 = .bool x23_14 ∧ Aside0 (spec_TokenOrder.j2 kq x23_14 a0_0 a0_1 a0_2 = some (r1, r2)) ∧ Aside0 (kq ≤ kj9) ∧ Aside0 (wc.heap[gb110]? = some (.cells #[.string a0_0, .string a0_1, .bool a0_2] 23 (0, 0))) ∧ Aside0 (Below w.heap.size w wc))
              case first =>
                have H := HC15.out
                clear HC15
                by_cases c16 : a0_0.toList = ([45] : List UInt8)
                · rw [if_pos c16] at H
                  have c16b0 : (a0_0.toList == ([45] : List UInt8)) = true := beq_iff_eq.mpr c16
                  have c16b1 : (a0_0.toList != ([45] : List UInt8)) = false := bne_eq_false_iff_eq.mpr c16
                  clear c16
                  (first | rw [c16b0] | (simp only [i64_w, i32_w]; rw [c16b0]) | skip)
                  have H' := Aside0.mk H
                  clear H
                  have hcz17_0 : wc.cell? ⟨gb110, 0, none⟩ = some (.string a0_0) := (blk_cell BK110.out 0).trans rfl
                  have hcz17_1 : wc.cell? ⟨gb110, 1, none⟩ = some (.string a0_1) := (blk_cell BK110.out 1).trans rfl
                  have hcz17_2 : wc.cell? ⟨gb110, 2, none⟩ = some (.bool a0_2) := (blk_cell BK110.out 2).trans rfl
                  have hfz17_0 := blk_frozen BK110.out 0
                  have hfz17_1 := blk_frozen BK110.out 1
                  have hfz17_2 := blk_frozen BK110.out 2
                  go_wp2
                  go_meet
                  case rel => exact ⟨_, (t111), (by first | rfl | (simp; done) | (simp [*]; done) | (simp [bne_nil_]; done)), H', ⟨by have := HJ2.out; have := HJ9.out; first | omega | exact Nat.le_refl _⟩, ⟨by (with_reducible repeat (first | refine blk_drewN ?_ _ | refine blk_drew ?_ | refine blk_alloc ?_ _)); exact BK110.out⟩, ⟨by repeat (first | (with_reducible first | exact HB.out | apply below_alloc | apply pw_below_drewN | apply below_drew1 | refine below_set ?_ GE110.out) | exact HB.out)⟩⟩
                · rw [if_neg c16] at H
                  have c16b0 : (a0_0.toList == ([45] : List UInt8)) = false := beq_eq_false_iff_ne.mpr c16
                  have c16b1 : (a0_0.toList != ([45] : List UInt8)) = true := bne_iff_ne.mpr c16
                  (first | rw [c16b0] | (simp only [i64_w, i32_w]; rw [c16b0]) | skip)
                  have H' := Aside0.mk H
                  clear H
                  have hcz18_0 : wc.cell? ⟨gb110, 0, none⟩ = some (.string a0_0) := (blk_cell BK110.out 0).trans rfl
                  have hcz18_1 : wc.cell? ⟨gb110, 1, none⟩ = some (.string a0_1) := (blk_cell BK110.out 1).trans rfl
                  have hcz18_2 : wc.cell? ⟨gb110, 2, none⟩ = some (.bool a0_2) := (blk_cell BK110.out 2).trans rfl
                  have hfz18_0 := blk_frozen BK110.out 0
                  have hfz18_1 := blk_frozen BK110.out 1
                  have hfz18_2 := blk_frozen BK110.out 2
                  go_wp2
                  go_meet
                  case rel => exact ⟨_, (false), (by first | rfl | (simp; done) | (simp [*]; done) | (simp [bne_nil_]; done)), H', ⟨by have := HJ2.out; have := HJ9.out; first | omega | exact Nat.le_refl _⟩, ⟨by (with_reducible repeat (first | refine blk_drewN ?_ _ | refine blk_drew ?_ | refine blk_alloc ?_ _)); exact BK110.out⟩, ⟨by repeat (first | (with_reducible first | exact HB.out | apply below_alloc | apply pw_below_drewN | apply below_drew1 | refine below_set ?_ GE110.out) | exact HB.out)⟩⟩
              case rest =>
                clear HC15
                try clear c1
                try clear p2
                try clear c5
                try clear c6
                try clear c6b0
                try clear c6b1
                try clear c9
                try clear c11
                try clear c11b0
                try clear c11b1
                try clear c14
                try clear c16
                try clear c16b0
                try clear c16b1
                try clear c18
                try clear hcz12_0
                try clear hcz12_1
                try clear hcz12_2
                try clear hcz13_0
                try clear hcz13_1
                try clear hcz13_2
                try clear hcz17_0
                try clear hcz17_1
                try clear hcz17_2
                try clear hcz18_0
                try clear hcz18_1
                try clear hcz18_2
                try clear hcz5_0
                try clear hcz5_1
                try clear hcz5_2
                try clear hcz7_0
                try clear hcz7_1
                try clear hcz7_2
                try clear hcz8_0
                try clear hcz8_1
                try clear hcz8_2
                try clear hfz12_0
                try clear hfz12_1
                try clear hfz12_2
                try clear hfz13_0
                try clear hfz13_1
                try clear hfz13_2
                try clear hfz17_0
                try clear hfz17_1
                try clear hfz17_2
                try clear hfz18_0
                try clear hfz18_1
                try clear hfz18_2
                try clear hfz5_0
                try clear hfz5_1
                try clear hfz5_2
                try clear hfz7_0
                try clear hfz7_1
                try clear hfz7_2
                try clear hfz8_0
                try clear hfz8_1
                try clear hfz8_2
                try clear p2
                obtain ⟨kq, x23_14, rfl, HA, HJ14, BK110, HB⟩ := hcut
                cases kq with
                | zero => exact absurd HA.out (by simp [spec_TokenOrder.j2])
                | succ kj14 =>
                  have H := HA.out
                  clear HA
                  simp only [spec_TokenOrder.j2] at H
                  by_cases c19 : x23_14 = true
                  · subst c19
                    have H1 : (some (2, true)) = some (r1, r2) := by rw [if_pos rfl] at H; exact H
                    clear H
                    have H := H1
                    clear H1
                    simp only [Option.some.injEq, Prod.mk.injEq] at H
                    obtain ⟨rfl, rfl⟩ := H
                    go_wp2
                    go_ret2
                    exact ⟨by first | rfl | (simp [errW_none, errW_some] <;> rfl) | (simp [*, errW_none, errW_some] <;> rfl) | (simp [bne_nil_]; done), by repeat (first | (with_reducible first | exact HB.out | apply below_alloc | apply pw_below_drewN | apply below_drew1 | refine below_set ?_ GE110.out) | exact HB.out)⟩
                  · replace c19 := Bool.eq_false_iff.mpr c19
                    subst c19
                    have H1 : (if a0_0.toList = ([45] : List UInt8) then (some (1, true)) else (some (0, false))) = some (r1, r2) := by rw [if_neg (show ¬ (false = true) by decide)] at H; exact H
                    clear H
                    have H := H1
                    clear H1
                    by_cases c20 : a0_0.toList = ([45] : List UInt8)
                    · rw [if_pos c20] at H
                      have c20b0 : (a0_0.toList == ([45] : List UInt8)) = true := beq_iff_eq.mpr c20
                      have c20b1 : (a0_0.toList != ([45] : List UInt8)) = false := bne_eq_false_iff_eq.mpr c20
                      clear c20
                      simp only [Option.some.injEq, Prod.mk.injEq] at H
                      obtain ⟨rfl, rfl⟩ := H
                      have hcz21_0 : wc.cell? ⟨gb110, 0, none⟩ = some (.string a0_0) := (blk_cell BK110.out 0).trans rfl
                      have hcz21_1 : wc.cell? ⟨gb110, 1, none⟩ = some (.string a0_1) := (blk_cell BK110.out 1).trans rfl
                      have hcz21_2 : wc.cell? ⟨gb110, 2, none⟩ = some (.bool a0_2) := (blk_cell BK110.out 2).trans rfl
                      have hfz21_0 := blk_frozen BK110.out 0
                      have hfz21_1 := blk_frozen BK110.out 1
                      have hfz21_2 := blk_frozen BK110.out 2
                      go_wp2
                      go_ret2
                      exact ⟨by first | rfl | (simp [errW_none, errW_some] <;> rfl) | (simp [*, errW_none, errW_some] <;> rfl) | (simp [bne_nil_]; done), by repeat (first | (with_reducible first | exact HB.out | apply below_alloc | apply pw_below_drewN | apply below_drew1 | refine below_set ?_ GE110.out) | exact HB.out)⟩
                    · rw [if_neg c20] at H
                      have c20b0 : (a0_0.toList == ([45] : List UInt8)) = false := beq_eq_false_iff_ne.mpr c20
                      have c20b1 : (a0_0.toList != ([45] : List UInt8)) = true := bne_iff_ne.mpr c20
                      simp only [Option.some.injEq, Prod.mk.injEq] at H
                      obtain ⟨rfl, rfl⟩ := H
                      have hcz22_0 : wc.cell? ⟨gb110, 0, none⟩ = some (.string a0_0) := (blk_cell BK110.out 0).trans rfl
                      have hcz22_1 : wc.cell? ⟨gb110, 1, none⟩ = some (.string a0_1) := (blk_cell BK110.out 1).trans rfl
                      have hcz22_2 : wc.cell? ⟨gb110, 2, none⟩ = some (.bool a0_2) := (blk_cell BK110.out 2).trans rfl
                      have hfz22_0 := blk_frozen BK110.out 0
                      have hfz22_1 := blk_frozen BK110.out 1
                      have hfz22_2 := blk_frozen BK110.out 2
                      go_wp2
                      go_ret2
                      exact ⟨by first | rfl | (simp [errW_none, errW_some] <;> rfl) | (simp [*, errW_none, errW_some] <;> rfl) | (simp [bne_nil_]; done), by repeat (first | (with_reducible first | exact HB.out | apply below_alloc | apply pw_below_drewN | apply below_drew1 | refine below_set ?_ GE110.out) | exact HB.out)⟩

-- LEFT OUT: function 102

-- LEFT OUT: function 61

-- GIVEN: function 19 (impl_TokenNull)

/-! ### spec_TokenNull: function 20 -/
def spec_TokenNull.j0 : Nat → Bool → ByteArray → ByteArray → Bool → Option (ByteArray × ByteArray × Bool × Bool)
  | 0, _, _, _, _ => none
  | k + 1, x4, x113000, x113001, x113002 => if x4 = true then (some (x113000, (⟨#[]⟩ : ByteArray), true, true)) else (if x113000.toList = ([46] : List UInt8) then (some (x113000, (⟨#[48]⟩ : ByteArray), true, true)) else (some ((⟨#[]⟩ : ByteArray), (⟨#[]⟩ : ByteArray), false, false)))
def spec_TokenNull.f (k : Nat) (a0_0 : ByteArray) (a0_1 : ByteArray) (a0_2 : Bool) : Option (ByteArray × ByteArray × Bool × Bool) := if a0_0.toList = ([45] : List UInt8) then (spec_TokenNull.j0 k (a0_0.toList == ([45] : List UInt8)) a0_0 a0_1 a0_2) else (if a0_0.toList = ([46] : List UInt8) then (spec_TokenNull.j0 k (a0_1.toList == ([115, 112] : List UInt8)) a0_0 a0_1 a0_2) else (spec_TokenNull.j0 k false a0_0 a0_1 a0_2))
theorem spec_TokenNull.mono_l : ∀ k, (∀ y0 y1 y2 y3, LeO (spec_TokenNull.j0 k y0 y1 y2 y3) (spec_TokenNull.j0 (k + 1) y0 y1 y2 y3))
  | 0 => fun _ _ _ _ r h => by simp [spec_TokenNull.j0] at h
  | k + 1 => by
    have ih0 := spec_TokenNull.mono_l k
    · intro y0 y1 y2 y3
      unfold spec_TokenNull.j0
      repeat' first
      | (with_reducible exact ih0 _ _ _ _)
      | (with_reducible exact LeO.refl _)
      | (with_reducible exact LeO.none _)
      | (with_reducible refine LeO.ite ?_ ?_)
      | (with_reducible refine LeO.bind ?_ (fun _ => ?_))
      | exact ih0 _ _ _ _
      | exact LeO.none _
      | refine LeO.ite ?_ ?_
      | refine LeO.bind ?_ (fun _ => ?_)
theorem spec_TokenNull.mono : ∀ a0 a1 a2 k, LeO (spec_TokenNull.f k a0 a1 a2) (spec_TokenNull.f (k + 1) a0 a1 a2) := by
  intro a0 a1 a2 k
  have ih0 := spec_TokenNull.mono_l k
  unfold spec_TokenNull.f
  repeat' first
      | (with_reducible exact ih0 _ _ _ _)
      | (with_reducible exact LeO.refl _)
      | (with_reducible exact LeO.none _)
      | (with_reducible refine LeO.ite ?_ ?_)
      | (with_reducible refine LeO.bind ?_ (fun _ => ?_))
      | exact ih0 _ _ _ _
      | exact LeO.none _
      | refine LeO.ite ?_ ?_
      | refine LeO.bind ?_ (fun _ => ?_)
set_option maxHeartbeats 8000000 in
set_option maxRecDepth 100000 in
theorem spec_TokenNull.calls (k : Nat) (a0_0 : ByteArray) (a0_1 : ByteArray) (a0_2 : Bool) (r1 : ByteArray) (r2 : ByteArray) (r3 : Bool) (r4 : Bool) (w : World) (h : spec_TokenNull.f k a0_0 a0_1 a0_2 = some (r1, r2, r3, r4)) :
    Calls Tryd.prog 20 #[.agg #[.string a0_0, .string a0_1, .bool a0_2]] w fun e w' => e = .returned (.tuple #[.agg #[.string r1, .string r2, .bool r3], .bool r4]) ∧ Below w.heap.size w w' := by
  have hu23 := Tryd.underlying23
  have HB := Aside0.mk (Below.refl w.heap.size w)
  have H : (if a0_0.toList = ([45] : List UInt8) then (spec_TokenNull.j0 k (a0_0.toList == ([45] : List UInt8)) a0_0 a0_1 a0_2) else (if a0_0.toList = ([46] : List UInt8) then (spec_TokenNull.j0 k (a0_1.toList == ([115, 112] : List UInt8)) a0_0 a0_1 a0_2) else (spec_TokenNull.j0 k false a0_0 a0_1 a0_2))) = some (r1, r2, r3, r4) := h
  clear h
  have HC2 := Aside0.mk H
  clear H
  go_enter Tryd.func20, Tryd.ntmps20
  go_upto_if 4 with (first | ((with_reducible refine gate_dst (N := 1) rfl ?_); refine box_event ?hg (N := 1) ?hd (cs := #[.string a0_0, .string a0_1, .bool a0_2]) (t := 23) ?hr ?_; (case hd => rfl); (case hg => rfl); (case hr => first | (go_simp; done) | (go_simp; rfl)); intro gb112 hg w3 hbox hb; have n0_ := Aside0.mk (below_step (by repeat (first | (with_reducible first | exact HB.out | apply below_alloc | apply pw_below_drewN | apply below_drew1) | exact HB.out)) hb); have n1_ := Aside0.mk (hbox); have n2_ := Aside0.mk ((by rw [hg]; exact (below_size (by repeat (first | (with_reducible first | exact HB.out | apply below_alloc | apply pw_below_drewN | apply below_drew1) | exact HB.out))) : w.heap.size ≤ gb112)); have n3_ := Aside0.mk ((by rw [hg]; exact (below_size (by repeat (first | (with_reducible first | exact HB.out | apply below_alloc | apply pw_below_drewN | apply below_drew1) | exact HB.out))) : w.heap.size ≤ gb112)); clear HB; have HB := n0_; have BK112 := n1_; have GW112 := n2_; have GE112 := n3_; clear n0_ n1_ n2_ n3_; clear hb hbox hg) | ((with_reducible refine gate_dst (N := 2) rfl ?_); refine box_event ?hg (N := 2) ?hd (cs := #[.string (⟨#[]⟩ : ByteArray), .string (⟨#[]⟩ : ByteArray), .bool false]) (t := 23) ?hr ?_; (case hd => rfl); (case hg => rfl); (case hr => first | (go_simp; done) | (go_simp; rfl)); intro gb113 hg w4 hbox hb; have n0_ := Aside0.mk (blk_below (g := gb112) (o := .cells #[.string a0_0, .string a0_1, .bool a0_2] 23 (0, 0)) (by (with_reducible repeat (first | refine blk_drewN ?_ _ | refine blk_drew ?_ | refine blk_alloc ?_ _)); exact BK112.out) hb); have n1_ := Aside0.mk (below_step (by repeat (first | (with_reducible first | exact HB.out | apply below_alloc | apply pw_below_drewN | apply below_drew1 | refine below_set ?_ GE112.out) | exact HB.out)) hb); have n2_ := Aside0.mk (hbox); have n3_ := Aside0.mk ((by rw [hg]; exact (below_size (by repeat (first | (with_reducible first | exact HB.out | apply below_alloc | apply pw_below_drewN | apply below_drew1 | refine below_set ?_ GE112.out) | exact HB.out))) : w.heap.size ≤ gb113)); have n4_ := Aside0.mk ((by rw [hg]; exact (below_size (by repeat (first | (with_reducible first | exact HB.out | apply below_alloc | apply pw_below_drewN | apply below_drew1 | refine below_set ?_ GE112.out) | exact HB.out))) : w.heap.size ≤ gb113)); have n5_ := Aside0.mk ((by rw [hg]; exact Nat.ne_of_lt (blk_lt (g := gb112) (o := .cells #[.string a0_0, .string a0_1, .bool a0_2] 23 (0, 0)) (by (with_reducible repeat (first | refine blk_drewN ?_ _ | refine blk_drew ?_ | refine blk_alloc ?_ _)); exact BK112.out)) : gb112 ≠ gb113)); have n6_ := Aside0.mk ((by rw [hg]; exact Nat.ne_of_gt (blk_lt (g := gb112) (o := .cells #[.string a0_0, .string a0_1, .bool a0_2] 23 (0, 0)) (by (with_reducible repeat (first | refine blk_drewN ?_ _ | refine blk_drew ?_ | refine blk_alloc ?_ _)); exact BK112.out)) : gb113 ≠ gb112)); clear BK112; clear HB; have BK112 := n0_; have HB := n1_; have BK113 := n2_; have GW113 := n3_; have GE113 := n4_; have NB112_113 := n5_; have NB113_112 := n6_; clear n0_ n1_ n2_ n3_ n4_ n5_ n6_; clear hb hbox hg; have hnb5 := NB112_113.out; have hnc5 := NB113_112.out; have hcz6_0 : w4.cell? ⟨gb112, 0, none⟩ = some (.string a0_0) := (blk_cell BK112.out 0).trans rfl; have hcz6_1 : w4.cell? ⟨gb112, 1, none⟩ = some (.string a0_1) := (blk_cell BK112.out 1).trans rfl; have hcz6_2 : w4.cell? ⟨gb112, 2, none⟩ = some (.bool a0_2) := (blk_cell BK112.out 2).trans rfl; have hfz6_0 := blk_frozen BK112.out 0; have hfz6_1 := blk_frozen BK112.out 1; have hfz6_2 := blk_frozen BK112.out 2))
  (try simp only [Act.put, List.setIfInBounds_toArray, List.set_cons_zero, List.set_cons_succ])
  go_cut [4] (fun v4 wc => ∃ (kq : Nat) (x4_1 : Bool), v4 = .bool x4_1 ∧ Aside0 (spec_TokenNull.j0 kq x4_1 a0_0 a0_1 a0_2 = some (r1, r2, r3, r4)) ∧ Aside0 (kq ≤ k) ∧ Aside0 (wc.heap[gb112]? = some (.cells #[.string a0_0, .string a0_1, .bool a0_2] 23 (0, 0))) ∧ Aside0 (wc.heap[gb113]? = some (.cells #[.string (⟨#[]⟩ : ByteArray), .string (⟨#[]⟩ : ByteArray), .bool false] 23 (0, 0))) ∧ Aside0 (Below w.heap.size w wc))
  case first =>
    have H := HC2.out
    clear HC2
    by_cases c7 : a0_0.toList = ([45] : List UInt8)
    · rw [if_pos c7] at H
      have c7b0 : (a0_0.toList == ([45] : List UInt8)) = true := beq_iff_eq.mpr c7
      have c7b1 : (a0_0.toList != ([45] : List UInt8)) = false := bne_eq_false_iff_eq.mpr c7
      clear c7
      (first | rw [c7b0] | (simp only [i64_w, i32_w]; rw [c7b0]) | skip)
      have H' := Aside0.mk H
      clear H
      go_wp2
      go_meet
      case rel => exact ⟨_, ((a0_0.toList == ([45] : List UInt8))), (by first | rfl | (simp; done) | (simp [*]; done) | (simp [bne_nil_]; done)), H', ⟨by first | omega | exact Nat.le_refl _⟩, ⟨by (with_reducible repeat (first | refine blk_drewN ?_ _ | refine blk_drew ?_ | refine blk_alloc ?_ _)); exact BK112.out⟩, ⟨by (with_reducible repeat (first | refine blk_drewN ?_ _ | refine blk_drew ?_ | refine blk_alloc ?_ _)); exact BK113.out⟩, ⟨by repeat (first | (with_reducible first | exact HB.out | apply below_alloc | apply pw_below_drewN | apply below_drew1 | refine below_set ?_ GE112.out | refine below_set ?_ GE113.out) | exact HB.out)⟩⟩
    · rw [if_neg c7] at H
      have c7b0 : (a0_0.toList == ([45] : List UInt8)) = false := beq_eq_false_iff_ne.mpr c7
      have c7b1 : (a0_0.toList != ([45] : List UInt8)) = true := bne_iff_ne.mpr c7
      (first | rw [c7b0] | (simp only [i64_w, i32_w]; rw [c7b0]) | skip)
      by_cases c8 : a0_0.toList = ([46] : List UInt8)
      · rw [if_pos c8] at H
        have c8b0 : (a0_0.toList == ([46] : List UInt8)) = true := beq_iff_eq.mpr c8
        have c8b1 : (a0_0.toList != ([46] : List UInt8)) = false := bne_eq_false_iff_eq.mpr c8
        clear c8
        have H' := Aside0.mk H
        clear H
        have hnb9 := NB112_113.out
        have hnc9 := NB113_112.out
        have hcz10_0 : w4.cell? ⟨gb112, 0, none⟩ = some (.string a0_0) := (blk_cell BK112.out 0).trans rfl
        have hcz10_1 : w4.cell? ⟨gb112, 1, none⟩ = some (.string a0_1) := (blk_cell BK112.out 1).trans rfl
        have hcz10_2 : w4.cell? ⟨gb112, 2, none⟩ = some (.bool a0_2) := (blk_cell BK112.out 2).trans rfl
        have hfz10_0 := blk_frozen BK112.out 0
        have hfz10_1 := blk_frozen BK112.out 1
        have hfz10_2 := blk_frozen BK112.out 2
        go_wp2
        go_meet
        case rel => exact ⟨_, ((a0_1.toList == ([115, 112] : List UInt8))), (by first | rfl | (simp; done) | (simp [*]; done) | (simp [bne_nil_]; done)), H', ⟨by first | omega | exact Nat.le_refl _⟩, ⟨by (with_reducible repeat (first | refine blk_drewN ?_ _ | refine blk_drew ?_ | refine blk_alloc ?_ _)); exact BK112.out⟩, ⟨by (with_reducible repeat (first | refine blk_drewN ?_ _ | refine blk_drew ?_ | refine blk_alloc ?_ _)); exact BK113.out⟩, ⟨by repeat (first | (with_reducible first | exact HB.out | apply below_alloc | apply pw_below_drewN | apply below_drew1 | refine below_set ?_ GE112.out | refine below_set ?_ GE113.out) | exact HB.out)⟩⟩
      · rw [if_neg c8] at H
        have c8b0 : (a0_0.toList == ([46] : List UInt8)) = false := beq_eq_false_iff_ne.mpr c8
        have c8b1 : (a0_0.toList != ([46] : List UInt8)) = true := bne_iff_ne.mpr c8
        have H' := Aside0.mk H
        clear H
        have hnb11 := NB112_113.out
        have hnc11 := NB113_112.out
        have hcz12_0 : w4.cell? ⟨gb112, 0, none⟩ = some (.string a0_0) := (blk_cell BK112.out 0).trans rfl
        have hcz12_1 : w4.cell? ⟨gb112, 1, none⟩ = some (.string a0_1) := (blk_cell BK112.out 1).trans rfl
        have hcz12_2 : w4.cell? ⟨gb112, 2, none⟩ = some (.bool a0_2) := (blk_cell BK112.out 2).trans rfl
        have hfz12_0 := blk_frozen BK112.out 0
        have hfz12_1 := blk_frozen BK112.out 1
        have hfz12_2 := blk_frozen BK112.out 2
        go_wp2
        go_meet
        case rel => exact ⟨_, (false), (by first | rfl | (simp; done) | (simp [*]; done) | (simp [bne_nil_]; done)), H', ⟨by first | omega | exact Nat.le_refl _⟩, ⟨by (with_reducible repeat (first | refine blk_drewN ?_ _ | refine blk_drew ?_ | refine blk_alloc ?_ _)); exact BK112.out⟩, ⟨by (with_reducible repeat (first | refine blk_drewN ?_ _ | refine blk_drew ?_ | refine blk_alloc ?_ _)); exact BK113.out⟩, ⟨by repeat (first | (with_reducible first | exact HB.out | apply below_alloc | apply pw_below_drewN | apply below_drew1 | refine below_set ?_ GE112.out | refine below_set ?_ GE113.out) | exact HB.out)⟩⟩
  case rest =>
    clear HC2
    try clear c1
    try clear c2
    try clear p2
    try clear c5
    try clear c7
    try clear c7b0
    try clear c7b1
    try clear c8
    try clear c8b0
    try clear c8b1
    try clear c9
    try clear c11
    try clear hcz10_0
    try clear hcz10_1
    try clear hcz10_2
    try clear hcz12_0
    try clear hcz12_1
    try clear hcz12_2
    try clear hcz6_0
    try clear hcz6_1
    try clear hcz6_2
    try clear hfz10_0
    try clear hfz10_1
    try clear hfz10_2
    try clear hfz12_0
    try clear hfz12_1
    try clear hfz12_2
    try clear hfz6_0
    try clear hfz6_1
    try clear hfz6_2
    obtain ⟨kq, x4_1, rfl, HA, HJ1, BK112, BK113, HB⟩ := hcut
    cases kq with
    | zero => exact absurd HA.out (by simp [spec_TokenNull.j0])
    | succ kj1 =>
      have H := HA.out
      clear HA
      simp only [spec_TokenNull.j0] at H
      by_cases c13 : x4_1 = true
      · subst c13
        have H1 : (some (a0_0, (⟨#[]⟩ : ByteArray), true, true)) = some (r1, r2, r3, r4) := by rw [if_pos rfl] at H; exact H
        clear H
        have H := H1
        clear H1
        simp only [Option.some.injEq, Prod.mk.injEq] at H
        obtain ⟨rfl, rfl, rfl, rfl⟩ := H
        have hnb14 := NB112_113.out
        have hnc14 := NB113_112.out
        have hcz15_0 : wc.cell? ⟨gb112, 0, none⟩ = some (.string a0_0) := (blk_cell BK112.out 0).trans rfl
        have hcz15_1 : wc.cell? ⟨gb112, 1, none⟩ = some (.string a0_1) := (blk_cell BK112.out 1).trans rfl
        have hcz15_2 : wc.cell? ⟨gb112, 2, none⟩ = some (.bool a0_2) := (blk_cell BK112.out 2).trans rfl
        have hfz15_0 := blk_frozen BK112.out 0
        have hfz15_1 := blk_frozen BK112.out 1
        have hfz15_2 := blk_frozen BK112.out 2
        have hcz16_0 : wc.cell? ⟨gb113, 0, none⟩ = some (.string (⟨#[]⟩ : ByteArray)) := (blk_cell BK113.out 0).trans rfl
        have hcz16_1 : wc.cell? ⟨gb113, 1, none⟩ = some (.string (⟨#[]⟩ : ByteArray)) := (blk_cell BK113.out 1).trans rfl
        have hcz16_2 : wc.cell? ⟨gb113, 2, none⟩ = some (.bool false) := (blk_cell BK113.out 2).trans rfl
        have hfz16_0 := blk_frozen BK113.out 0
        have hfz16_1 := blk_frozen BK113.out 1
        have hfz16_2 := blk_frozen BK113.out 2
        go_wp2
        refine bodyPost_ret (results_ct rfl _ _ gb113 23 #[.string a0_0, .string (⟨#[]⟩ : ByteArray), .bool true] (0, 0) _ rfl (by (with_reducible repeat (first | refine blk_drewN ?_ _ | refine blk_drew ?_ | refine blk_alloc ?_ _)); refine blk_put (cs := #[.string a0_0, .string (⟨#[]⟩ : ByteArray), .bool false]) ?_ 2 _ rfl; (with_reducible repeat (first | refine blk_drewN ?_ _ | refine blk_drew ?_ | refine blk_alloc ?_ _)); refine blk_put (cs := #[.string a0_0, .string (⟨#[]⟩ : ByteArray), .bool false]) ?_ 1 _ rfl; (with_reducible repeat (first | refine blk_drewN ?_ _ | refine blk_drew ?_ | refine blk_alloc ?_ _)); refine blk_put (cs := #[.string (⟨#[]⟩ : ByteArray), .string (⟨#[]⟩ : ByteArray), .bool false]) ?_ 0 _ rfl; (with_reducible repeat (first | refine blk_drewN ?_ _ | refine blk_drew ?_ | refine blk_alloc ?_ _)); exact BK113.out) Tryd.underlying23 rfl (by kernel_rfl)) rfl ?_
        exact ⟨by first | rfl | (simp [errW_none, errW_some] <;> rfl) | (simp [*, errW_none, errW_some] <;> rfl) | (simp [bne_nil_]; done), by repeat (first | (with_reducible first | exact HB.out | apply below_alloc | apply pw_below_drewN | apply below_drew1 | refine below_set ?_ GE112.out | refine below_set ?_ GE113.out) | exact HB.out)⟩
      · replace c13 := Bool.eq_false_iff.mpr c13
        subst c13
        have H1 : (if a0_0.toList = ([46] : List UInt8) then (some (a0_0, (⟨#[48]⟩ : ByteArray), true, true)) else (some ((⟨#[]⟩ : ByteArray), (⟨#[]⟩ : ByteArray), false, false))) = some (r1, r2, r3, r4) := by rw [if_neg (show ¬ (false = true) by decide)] at H; exact H
        clear H
        have H := H1
        clear H1
        by_cases c17 : a0_0.toList = ([46] : List UInt8)
        · rw [if_pos c17] at H
          have c17b0 : (a0_0.toList == ([46] : List UInt8)) = true := beq_iff_eq.mpr c17
          have c17b1 : (a0_0.toList != ([46] : List UInt8)) = false := bne_eq_false_iff_eq.mpr c17
          clear c17
          simp only [Option.some.injEq, Prod.mk.injEq] at H
          obtain ⟨rfl, rfl, rfl, rfl⟩ := H
          have hnb18 := NB112_113.out
          have hnc18 := NB113_112.out
          have hcz19_0 : wc.cell? ⟨gb112, 0, none⟩ = some (.string a0_0) := (blk_cell BK112.out 0).trans rfl
          have hcz19_1 : wc.cell? ⟨gb112, 1, none⟩ = some (.string a0_1) := (blk_cell BK112.out 1).trans rfl
          have hcz19_2 : wc.cell? ⟨gb112, 2, none⟩ = some (.bool a0_2) := (blk_cell BK112.out 2).trans rfl
          have hfz19_0 := blk_frozen BK112.out 0
          have hfz19_1 := blk_frozen BK112.out 1
          have hfz19_2 := blk_frozen BK112.out 2
          have hcz20_0 : wc.cell? ⟨gb113, 0, none⟩ = some (.string (⟨#[]⟩ : ByteArray)) := (blk_cell BK113.out 0).trans rfl
          have hcz20_1 : wc.cell? ⟨gb113, 1, none⟩ = some (.string (⟨#[]⟩ : ByteArray)) := (blk_cell BK113.out 1).trans rfl
          have hcz20_2 : wc.cell? ⟨gb113, 2, none⟩ = some (.bool false) := (blk_cell BK113.out 2).trans rfl
          have hfz20_0 := blk_frozen BK113.out 0
          have hfz20_1 := blk_frozen BK113.out 1
          have hfz20_2 := blk_frozen BK113.out 2
          go_wp2
          refine bodyPost_ret (results_ct rfl _ _ gb113 23 #[.string a0_0, .string (⟨#[48]⟩ : ByteArray), .bool true] (0, 0) _ rfl (by (with_reducible repeat (first | refine blk_drewN ?_ _ | refine blk_drew ?_ | refine blk_alloc ?_ _)); refine blk_put (cs := #[.string a0_0, .string (⟨#[48]⟩ : ByteArray), .bool false]) ?_ 2 _ rfl; (with_reducible repeat (first | refine blk_drewN ?_ _ | refine blk_drew ?_ | refine blk_alloc ?_ _)); refine blk_put (cs := #[.string a0_0, .string (⟨#[]⟩ : ByteArray), .bool false]) ?_ 1 _ rfl; (with_reducible repeat (first | refine blk_drewN ?_ _ | refine blk_drew ?_ | refine blk_alloc ?_ _)); refine blk_put (cs := #[.string (⟨#[]⟩ : ByteArray), .string (⟨#[]⟩ : ByteArray), .bool false]) ?_ 0 _ rfl; (with_reducible repeat (first | refine blk_drewN ?_ _ | refine blk_drew ?_ | refine blk_alloc ?_ _)); exact BK113.out) Tryd.underlying23 rfl (by kernel_rfl)) rfl ?_
          exact ⟨by first | rfl | (simp [errW_none, errW_some] <;> rfl) | (simp [*, errW_none, errW_some] <;> rfl) | (simp [bne_nil_]; done), by repeat (first | (with_reducible first | exact HB.out | apply below_alloc | apply pw_below_drewN | apply below_drew1 | refine below_set ?_ GE112.out | refine below_set ?_ GE113.out) | exact HB.out)⟩
        · rw [if_neg c17] at H
          have c17b0 : (a0_0.toList == ([46] : List UInt8)) = false := beq_eq_false_iff_ne.mpr c17
          have c17b1 : (a0_0.toList != ([46] : List UInt8)) = true := bne_iff_ne.mpr c17
          simp only [Option.some.injEq, Prod.mk.injEq] at H
          obtain ⟨rfl, rfl, rfl, rfl⟩ := H
          have hnb21 := NB112_113.out
          have hnc21 := NB113_112.out
          have hcz22_0 : wc.cell? ⟨gb112, 0, none⟩ = some (.string a0_0) := (blk_cell BK112.out 0).trans rfl
          have hcz22_1 : wc.cell? ⟨gb112, 1, none⟩ = some (.string a0_1) := (blk_cell BK112.out 1).trans rfl
          have hcz22_2 : wc.cell? ⟨gb112, 2, none⟩ = some (.bool a0_2) := (blk_cell BK112.out 2).trans rfl
          have hfz22_0 := blk_frozen BK112.out 0
          have hfz22_1 := blk_frozen BK112.out 1
          have hfz22_2 := blk_frozen BK112.out 2
          have hcz23_0 : wc.cell? ⟨gb113, 0, none⟩ = some (.string (⟨#[]⟩ : ByteArray)) := (blk_cell BK113.out 0).trans rfl
          have hcz23_1 : wc.cell? ⟨gb113, 1, none⟩ = some (.string (⟨#[]⟩ : ByteArray)) := (blk_cell BK113.out 1).trans rfl
          have hcz23_2 : wc.cell? ⟨gb113, 2, none⟩ = some (.bool false) := (blk_cell BK113.out 2).trans rfl
          have hfz23_0 := blk_frozen BK113.out 0
          have hfz23_1 := blk_frozen BK113.out 1
          have hfz23_2 := blk_frozen BK113.out 2
          go_wp2
          refine bodyPost_ret (results_ct rfl _ _ gb113 23 #[.string (⟨#[]⟩ : ByteArray), .string (⟨#[]⟩ : ByteArray), .bool false] (0, 0) _ rfl (by (with_reducible repeat (first | refine blk_drewN ?_ _ | refine blk_drew ?_ | refine blk_alloc ?_ _)); refine blk_put (cs := #[.string (⟨#[]⟩ : ByteArray), .string (⟨#[]⟩ : ByteArray), .bool false]) ?_ 2 _ rfl; (with_reducible repeat (first | refine blk_drewN ?_ _ | refine blk_drew ?_ | refine blk_alloc ?_ _)); refine blk_put (cs := #[.string (⟨#[]⟩ : ByteArray), .string (⟨#[]⟩ : ByteArray), .bool false]) ?_ 1 _ rfl; (with_reducible repeat (first | refine blk_drewN ?_ _ | refine blk_drew ?_ | refine blk_alloc ?_ _)); refine blk_put (cs := #[.string (⟨#[]⟩ : ByteArray), .string (⟨#[]⟩ : ByteArray), .bool false]) ?_ 0 _ rfl; (with_reducible repeat (first | refine blk_drewN ?_ _ | refine blk_drew ?_ | refine blk_alloc ?_ _)); exact BK113.out) Tryd.underlying23 rfl (by kernel_rfl)) rfl ?_
          exact ⟨by first | rfl | (simp [errW_none, errW_some] <;> rfl) | (simp [*, errW_none, errW_some] <;> rfl) | (simp [bne_nil_]; done), by repeat (first | (with_reducible first | exact HB.out | apply below_alloc | apply pw_below_drewN | apply below_drew1 | refine below_set ?_ GE112.out | refine below_set ?_ GE113.out) | exact HB.out)⟩

-- LEFT OUT: function 103

-- LEFT OUT: function 62

-- GIVEN: function 21 (impl_TokenTrims)

/-! ### spec_TokenTrims: function 22 -/
def spec_TokenTrims.f (a0_0 : ByteArray) (a0_1 : ByteArray) (a0_2 : Bool) : Option (Bool) := if a0_1.toList = ([48] : List UInt8) then (some true) else (if a0_1.toList = ([] : List UInt8) then (some true) else (if a0_1.toList = ([102, 105, 110, 97, 108] : List UInt8) then (some true) else (some (a0_1.toList == ([103, 97] : List UInt8)))))
set_option maxHeartbeats 8000000 in
set_option maxRecDepth 100000 in
theorem spec_TokenTrims.calls (a0_0 : ByteArray) (a0_1 : ByteArray) (a0_2 : Bool) (r : Bool) (w : World) (h : spec_TokenTrims.f a0_0 a0_1 a0_2 = some r) :
    Calls Tryd.prog 22 #[.agg #[.string a0_0, .string a0_1, .bool a0_2]] w fun e w' => e = .returned (.bool r) ∧ Below w.heap.size w w' := by
  have hu23 := Tryd.underlying23
  have HB := Aside0.mk (Below.refl w.heap.size w)
  have H : (if a0_1.toList = ([48] : List UInt8) then (some true) else (if a0_1.toList = ([] : List UInt8) then (some true) else (if a0_1.toList = ([102, 105, 110, 97, 108] : List UInt8) then (some true) else (some (a0_1.toList == ([103, 97] : List UInt8)))))) = some r := h
  clear h
  by_cases c2 : a0_1.toList = ([48] : List UInt8)
  · rw [if_pos c2] at H
    have c2b0 : (a0_1.toList == ([48] : List UInt8)) = true := beq_iff_eq.mpr c2
    have c2b1 : (a0_1.toList != ([48] : List UInt8)) = false := bne_eq_false_iff_eq.mpr c2
    clear c2
    obtain rfl := Option.some.inj H
    go_enter Tryd.func22, Tryd.ntmps22
    go_wp2_with (first | ((with_reducible refine gate_dst (N := 1) rfl ?_); refine box_event ?hg (N := 1) ?hd (cs := #[.string a0_0, .string a0_1, .bool a0_2]) (t := 23) ?hr ?_; (case hd => rfl); (case hg => rfl); (case hr => first | (go_simp; done) | (go_simp; rfl)); intro gb114 hg w3 hbox hb; have n0_ := Aside0.mk (below_step (by repeat (first | (with_reducible first | exact HB.out | apply below_alloc | apply pw_below_drewN | apply below_drew1) | exact HB.out)) hb); have n1_ := Aside0.mk (hbox); have n2_ := Aside0.mk ((by rw [hg]; exact (below_size (by repeat (first | (with_reducible first | exact HB.out | apply below_alloc | apply pw_below_drewN | apply below_drew1) | exact HB.out))) : w.heap.size ≤ gb114)); have n3_ := Aside0.mk ((by rw [hg]; exact (below_size (by repeat (first | (with_reducible first | exact HB.out | apply below_alloc | apply pw_below_drewN | apply below_drew1) | exact HB.out))) : w.heap.size ≤ gb114)); clear HB; have HB := n0_; have BK114 := n1_; have GW114 := n2_; have GE114 := n3_; clear n0_ n1_ n2_ n3_; clear hb hbox hg; have hcz4_0 : w3.cell? ⟨gb114, 0, none⟩ = some (.string a0_0) := (blk_cell BK114.out 0).trans rfl; have hcz4_1 : w3.cell? ⟨gb114, 1, none⟩ = some (.string a0_1) := (blk_cell BK114.out 1).trans rfl; have hcz4_2 : w3.cell? ⟨gb114, 2, none⟩ = some (.bool a0_2) := (blk_cell BK114.out 2).trans rfl; have hfz4_0 := blk_frozen BK114.out 0; have hfz4_1 := blk_frozen BK114.out 1; have hfz4_2 := blk_frozen BK114.out 2))
    go_ret
    exact ⟨by first | rfl | (simp [errW_none, errW_some] <;> rfl) | (simp [*, errW_none, errW_some] <;> rfl) | (simp [bne_nil_]; done), by repeat (first | (with_reducible first | exact HB.out | apply below_alloc | apply pw_below_drewN | apply below_drew1 | refine below_set ?_ GE114.out) | exact HB.out)⟩
  · rw [if_neg c2] at H
    have c2b0 : (a0_1.toList == ([48] : List UInt8)) = false := beq_eq_false_iff_ne.mpr c2
    have c2b1 : (a0_1.toList != ([48] : List UInt8)) = true := bne_iff_ne.mpr c2
    by_cases c5 : a0_1.toList = ([] : List UInt8)
    · rw [if_pos c5] at H
      have c5b0 : (a0_1.toList == ([] : List UInt8)) = true := beq_iff_eq.mpr c5
      have c5b1 : (a0_1.toList != ([] : List UInt8)) = false := bne_eq_false_iff_eq.mpr c5
      clear c5
      obtain rfl := Option.some.inj H
      go_enter Tryd.func22, Tryd.ntmps22
      go_wp2_with (first | ((with_reducible refine gate_dst (N := 1) rfl ?_); refine box_event ?hg (N := 1) ?hd (cs := #[.string a0_0, .string a0_1, .bool a0_2]) (t := 23) ?hr ?_; (case hd => rfl); (case hg => rfl); (case hr => first | (go_simp; done) | (go_simp; rfl)); intro gb114 hg w6 hbox hb; have n0_ := Aside0.mk (below_step (by repeat (first | (with_reducible first | exact HB.out | apply below_alloc | apply pw_below_drewN | apply below_drew1) | exact HB.out)) hb); have n1_ := Aside0.mk (hbox); have n2_ := Aside0.mk ((by rw [hg]; exact (below_size (by repeat (first | (with_reducible first | exact HB.out | apply below_alloc | apply pw_below_drewN | apply below_drew1) | exact HB.out))) : w.heap.size ≤ gb114)); have n3_ := Aside0.mk ((by rw [hg]; exact (below_size (by repeat (first | (with_reducible first | exact HB.out | apply below_alloc | apply pw_below_drewN | apply below_drew1) | exact HB.out))) : w.heap.size ≤ gb114)); clear HB; have HB := n0_; have BK114 := n1_; have GW114 := n2_; have GE114 := n3_; clear n0_ n1_ n2_ n3_; clear hb hbox hg; have hcz7_0 : w6.cell? ⟨gb114, 0, none⟩ = some (.string a0_0) := (blk_cell BK114.out 0).trans rfl; have hcz7_1 : w6.cell? ⟨gb114, 1, none⟩ = some (.string a0_1) := (blk_cell BK114.out 1).trans rfl; have hcz7_2 : w6.cell? ⟨gb114, 2, none⟩ = some (.bool a0_2) := (blk_cell BK114.out 2).trans rfl; have hfz7_0 := blk_frozen BK114.out 0; have hfz7_1 := blk_frozen BK114.out 1; have hfz7_2 := blk_frozen BK114.out 2))
      go_ret
      exact ⟨by first | rfl | (simp [errW_none, errW_some] <;> rfl) | (simp [*, errW_none, errW_some] <;> rfl) | (simp [bne_nil_]; done), by repeat (first | (with_reducible first | exact HB.out | apply below_alloc | apply pw_below_drewN | apply below_drew1 | refine below_set ?_ GE114.out) | exact HB.out)⟩
    · rw [if_neg c5] at H
      have c5b0 : (a0_1.toList == ([] : List UInt8)) = false := beq_eq_false_iff_ne.mpr c5
      have c5b1 : (a0_1.toList != ([] : List UInt8)) = true := bne_iff_ne.mpr c5
      by_cases c8 : a0_1.toList = ([102, 105, 110, 97, 108] : List UInt8)
      · rw [if_pos c8] at H
        have c8b0 : (a0_1.toList == ([102, 105, 110, 97, 108] : List UInt8)) = true := beq_iff_eq.mpr c8
        have c8b1 : (a0_1.toList != ([102, 105, 110, 97, 108] : List UInt8)) = false := bne_eq_false_iff_eq.mpr c8
        clear c8
        obtain rfl := Option.some.inj H
        go_enter Tryd.func22, Tryd.ntmps22
        go_wp2_with (first | ((with_reducible refine gate_dst (N := 1) rfl ?_); refine box_event ?hg (N := 1) ?hd (cs := #[.string a0_0, .string a0_1, .bool a0_2]) (t := 23) ?hr ?_; (case hd => rfl); (case hg => rfl); (case hr => first | (go_simp; done) | (go_simp; rfl)); intro gb114 hg w9 hbox hb; have n0_ := Aside0.mk (below_step (by repeat (first | (with_reducible first | exact HB.out | apply below_alloc | apply pw_below_drewN | apply below_drew1) | exact HB.out)) hb); have n1_ := Aside0.mk (hbox); have n2_ := Aside0.mk ((by rw [hg]; exact (below_size (by repeat (first | (with_reducible first | exact HB.out | apply below_alloc | apply pw_below_drewN | apply below_drew1) | exact HB.out))) : w.heap.size ≤ gb114)); have n3_ := Aside0.mk ((by rw [hg]; exact (below_size (by repeat (first | (with_reducible first | exact HB.out | apply below_alloc | apply pw_below_drewN | apply below_drew1) | exact HB.out))) : w.heap.size ≤ gb114)); clear HB; have HB := n0_; have BK114 := n1_; have GW114 := n2_; have GE114 := n3_; clear n0_ n1_ n2_ n3_; clear hb hbox hg; have hcz10_0 : w9.cell? ⟨gb114, 0, none⟩ = some (.string a0_0) := (blk_cell BK114.out 0).trans rfl; have hcz10_1 : w9.cell? ⟨gb114, 1, none⟩ = some (.string a0_1) := (blk_cell BK114.out 1).trans rfl; have hcz10_2 : w9.cell? ⟨gb114, 2, none⟩ = some (.bool a0_2) := (blk_cell BK114.out 2).trans rfl; have hfz10_0 := blk_frozen BK114.out 0; have hfz10_1 := blk_frozen BK114.out 1; have hfz10_2 := blk_frozen BK114.out 2))
        go_ret
        exact ⟨by first | rfl | (simp [errW_none, errW_some] <;> rfl) | (simp [*, errW_none, errW_some] <;> rfl) | (simp [bne_nil_]; done), by repeat (first | (with_reducible first | exact HB.out | apply below_alloc | apply pw_below_drewN | apply below_drew1 | refine below_set ?_ GE114.out) | exact HB.out)⟩
      · rw [if_neg c8] at H
        have c8b0 : (a0_1.toList == ([102, 105, 110, 97, 108] : List UInt8)) = false := beq_eq_false_iff_ne.mpr c8
        have c8b1 : (a0_1.toList != ([102, 105, 110, 97, 108] : List UInt8)) = true := bne_iff_ne.mpr c8
        obtain rfl := Option.some.inj H
        go_enter Tryd.func22, Tryd.ntmps22
        go_wp2_with (first | ((with_reducible refine gate_dst (N := 1) rfl ?_); refine box_event ?hg (N := 1) ?hd (cs := #[.string a0_0, .string a0_1, .bool a0_2]) (t := 23) ?hr ?_; (case hd => rfl); (case hg => rfl); (case hr => first | (go_simp; done) | (go_simp; rfl)); intro gb114 hg w11 hbox hb; have n0_ := Aside0.mk (below_step (by repeat (first | (with_reducible first | exact HB.out | apply below_alloc | apply pw_below_drewN | apply below_drew1) | exact HB.out)) hb); have n1_ := Aside0.mk (hbox); have n2_ := Aside0.mk ((by rw [hg]; exact (below_size (by repeat (first | (with_reducible first | exact HB.out | apply below_alloc | apply pw_below_drewN | apply below_drew1) | exact HB.out))) : w.heap.size ≤ gb114)); have n3_ := Aside0.mk ((by rw [hg]; exact (below_size (by repeat (first | (with_reducible first | exact HB.out | apply below_alloc | apply pw_below_drewN | apply below_drew1) | exact HB.out))) : w.heap.size ≤ gb114)); clear HB; have HB := n0_; have BK114 := n1_; have GW114 := n2_; have GE114 := n3_; clear n0_ n1_ n2_ n3_; clear hb hbox hg; have hcz12_0 : w11.cell? ⟨gb114, 0, none⟩ = some (.string a0_0) := (blk_cell BK114.out 0).trans rfl; have hcz12_1 : w11.cell? ⟨gb114, 1, none⟩ = some (.string a0_1) := (blk_cell BK114.out 1).trans rfl; have hcz12_2 : w11.cell? ⟨gb114, 2, none⟩ = some (.bool a0_2) := (blk_cell BK114.out 2).trans rfl; have hfz12_0 := blk_frozen BK114.out 0; have hfz12_1 := blk_frozen BK114.out 1; have hfz12_2 := blk_frozen BK114.out 2))
        go_ret
        exact ⟨by first | rfl | (simp [errW_none, errW_some] <;> rfl) | (simp [*, errW_none, errW_some] <;> rfl) | (simp [bne_nil_]; done), by repeat (first | (with_reducible first | exact HB.out | apply below_alloc | apply pw_below_drewN | apply below_drew1 | refine below_set ?_ GE114.out) | exact HB.out)⟩

end Go.Proofs.YtchbfjjeodnocaaDoor.QT
