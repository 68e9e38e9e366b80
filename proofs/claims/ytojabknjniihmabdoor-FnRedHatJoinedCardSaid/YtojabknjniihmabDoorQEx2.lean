-- Written by a working copy of the kit's print program, turned at a few places by wip/tool/mkprint.py. Lean checks it.
import Derived.Test.YtojabknjniihmabDoorQEx0
import Derived.Test.YtojabknjniihmabDoorQEx1
namespace Go.Proofs.YtojabknjniihmabDoor.QE
open Go.RowKit Go.Proofs.YtojabknjniihmabDoorW.PrintWords Go.Proofs.YtojabknjniihmabDoorW.PrintLast Go.Proofs.YtojabknjniihmabDoorW.PrintMore
attribute [local go_sem] max2_int min2_int max_two min_two max_three min_three max_four min_four   -- for this text's walks alone
set_option linter.unusedVariables false
set_option linter.unusedSimpArgs false

/-! ### impl_RedHatParse: function 16 -/
def impl_RedHatParse.f (k : Nat) (a0 : ByteArray) : Option (ByteArray × ByteArray × ByteArray) := (semantic_ParseRedHatVersion.f k a0).bind fun bt138 => ((semantic_ZZRedHatTold.f bt138.1 bt138.2.1 bt138.2.2).bind fun bt141 => (some (bt141.1, bt141.2.1, bt141.2.2)))
theorem impl_RedHatParse.mono : ∀ a0 k, LeO (impl_RedHatParse.f k a0) (impl_RedHatParse.f (k + 1) a0) := by
  intro a0 k
  unfold impl_RedHatParse.f
  repeat' first
      | (with_reducible exact semantic_ParseRedHatVersion.mono _ _)
      | (with_reducible exact LeO.refl _)
      | (with_reducible exact LeO.none _)
      | (with_reducible refine LeO.ite ?_ ?_)
      | (with_reducible refine LeO.bind ?_ (fun _ => ?_))
      | exact semantic_ParseRedHatVersion.mono _ _
      | exact LeO.none _
      | refine LeO.ite ?_ ?_
      | refine LeO.bind ?_ (fun _ => ?_)
set_option maxHeartbeats 8000000 in
set_option maxRecDepth 100000 in
theorem impl_RedHatParse.calls (k : Nat) (a0 : ByteArray) (r1 : ByteArray) (r2 : ByteArray) (r3 : ByteArray) (w : World) (h : impl_RedHatParse.f k a0 = some (r1, r2, r3)) :
    Calls Tryd.prog 16 #[.string a0] w fun e w' => e = .returned (.agg #[.string r1, .string r2, .string r3]) ∧ Below w.heap.size w w' := by
  have hu34 := Tryd.underlying34
  have HB := Aside0.mk (Below.refl w.heap.size w)
  have H : ((semantic_ParseRedHatVersion.f k a0).bind fun bt138 => ((semantic_ZZRedHatTold.f bt138.1 bt138.2.1 bt138.2.2).bind fun bt141 => (some (bt141.1, bt141.2.1, bt141.2.2)))) = some (r1, r2, r3) := h
  clear h
  replace H := Option.bind_eq_some_iff.mp H
  obtain ⟨⟨t138, t139, t140⟩, A20, H⟩ := H
  replace H : ((semantic_ZZRedHatTold.f t138 t139 t140).bind fun bt141 => (some (bt141.1, bt141.2.1, bt141.2.2))) = some (r1, r2, r3) := H
  have A2 := Aside0.mk A20
  clear A20
  replace H := Option.bind_eq_some_iff.mp H
  obtain ⟨⟨t141, t142, t143⟩, A30, H⟩ := H
  replace H : (some (t141, t142, t143)) = some (r1, r2, r3) := H
  have A3 := Aside0.mk A30
  clear A30
  simp only [Option.some.injEq, Prod.mk.injEq] at H
  obtain ⟨rfl, rfl, rfl⟩ := H
  go_enter Tryd.func16, Tryd.ntmps16
  go_wp2_with (first | ((with_reducible refine gate_dst (N := 2) rfl ?_); refine box_event ?hg (N := 2) ?hd (cs := #[.string (⟨#[]⟩ : ByteArray), .string (⟨#[]⟩ : ByteArray), .string (⟨#[]⟩ : ByteArray)]) (t := 34) ?hr ?_; (case hd => rfl); (case hg => rfl); (case hr => first | (go_simp; done) | (go_simp; rfl)); intro gb137 hg w4 hbox hb; have n0_ := Aside0.mk (below_step (by repeat (first | (with_reducible first | exact HB.out | apply below_alloc | apply pw_below_drewN | apply below_drew1) | exact HB.out)) hb); have n1_ := Aside0.mk (hbox); have n2_ := Aside0.mk ((by rw [hg]; exact (below_size (by repeat (first | (with_reducible first | exact HB.out | apply below_alloc | apply pw_below_drewN | apply below_drew1) | exact HB.out))) : w.heap.size ≤ gb137)); have n3_ := Aside0.mk ((by rw [hg]; exact (below_size (by repeat (first | (with_reducible first | exact HB.out | apply below_alloc | apply pw_below_drewN | apply below_drew1) | exact HB.out))) : w.heap.size ≤ gb137)); clear HB; have HB := n0_; have BK137 := n1_; have GW137 := n2_; have GE137 := n3_; clear n0_ n1_ n2_ n3_; clear hb hbox hg) | ((with_reducible refine gate_callee (f := 18) rfl ?_); refine goesL_ (some 8) rfl rfl Tryd.func18 (by kernel_rfl) rfl #[.string a0] rfl (by (try simp only [List.map_toArray, List.map_cons, List.map_nil]); first | done | rfl | (simp only [List.length_drop, List.length_take]; rfl)) ?_; (with_reducible refine (semantic_ParseRedHatVersion.calls k a0 t138 t139 t140 _ A2.out).mono ?_); rintro e w5 ⟨rfl, hb⟩; refine ⟨_, rfl, ?_⟩; have n0_ := Aside0.mk (blk_below (g := gb137) (o := .cells #[.string (⟨#[]⟩ : ByteArray), .string (⟨#[]⟩ : ByteArray), .string (⟨#[]⟩ : ByteArray)] 34 (0, 0)) (by (with_reducible repeat (first | refine blk_drewN ?_ _ | refine blk_drew ?_ | refine blk_alloc ?_ _)); exact BK137.out) hb); have n1_ := Aside0.mk (below_step (by repeat (first | (with_reducible first | exact HB.out | apply below_alloc | apply pw_below_drewN | apply below_drew1 | refine below_set ?_ GE137.out) | exact HB.out)) hb); clear BK137; clear HB; have BK137 := n0_; have HB := n1_; clear n0_ n1_; (try clear hb); (try clear hb2); (try clear hk); (try clear hi)) | ((with_reducible refine gate_callee (f := 23) rfl ?_); refine goesL_ (some 9) rfl rfl Tryd.func23 (by kernel_rfl) rfl #[.agg #[.string t138, .string t139, .string t140]] rfl (by (try simp only [List.map_toArray, List.map_cons, List.map_nil]); first | done | rfl | (simp only [List.length_drop, List.length_take]; rfl)) ?_; (with_reducible refine (semantic_ZZRedHatTold.calls t138 t139 t140 t141 t142 t143 _ A3.out).mono ?_); rintro e w6 ⟨rfl, hb⟩; refine ⟨_, rfl, ?_⟩; have n0_ := Aside0.mk (blk_below (g := gb137) (o := .cells #[.string (⟨#[]⟩ : ByteArray), .string (⟨#[]⟩ : ByteArray), .string (⟨#[]⟩ : ByteArray)] 34 (0, 0)) (by (with_reducible repeat (first | refine blk_drewN ?_ _ | refine blk_drew ?_ | refine blk_alloc ?_ _)); exact BK137.out) hb); have n1_ := Aside0.mk (below_step (by repeat (first | (with_reducible first | exact HB.out | apply below_alloc | apply pw_below_drewN | apply below_drew1 | refine below_set ?_ GE137.out) | exact HB.out)) hb); clear BK137; clear HB; have BK137 := n0_; have HB := n1_; clear n0_ n1_; (try clear hb); (try clear hb2); (try clear hk); (try clear hi); have hcz7_0 : w6.cell? ⟨gb137, 0, none⟩ = some (.string (⟨#[]⟩ : ByteArray)) := (blk_cell BK137.out 0).trans rfl; have hcz7_1 : w6.cell? ⟨gb137, 1, none⟩ = some (.string (⟨#[]⟩ : ByteArray)) := (blk_cell BK137.out 1).trans rfl; have hcz7_2 : w6.cell? ⟨gb137, 2, none⟩ = some (.string (⟨#[]⟩ : ByteArray)) := (blk_cell BK137.out 2).trans rfl; have hfz7_0 := blk_frozen BK137.out 0; have hfz7_1 := blk_frozen BK137.out 1; have hfz7_2 := blk_frozen BK137.out 2))
  refine bodyPost_ret (results_cell_row rfl _ _ gb137 34 #[.string t141, .string t142, .string t143] (0, 0) _ rfl (by (with_reducible repeat (first | refine blk_drewN ?_ _ | refine blk_drew ?_ | refine blk_alloc ?_ _)); refine blk_put (cs := #[.string t141, .string t142, .string (⟨#[]⟩ : ByteArray)]) ?_ 2 _ rfl; (with_reducible repeat (first | refine blk_drewN ?_ _ | refine blk_drew ?_ | refine blk_alloc ?_ _)); refine blk_put (cs := #[.string t141, .string (⟨#[]⟩ : ByteArray), .string (⟨#[]⟩ : ByteArray)]) ?_ 1 _ rfl; (with_reducible repeat (first | refine blk_drewN ?_ _ | refine blk_drew ?_ | refine blk_alloc ?_ _)); refine blk_put (cs := #[.string (⟨#[]⟩ : ByteArray), .string (⟨#[]⟩ : ByteArray), .string (⟨#[]⟩ : ByteArray)]) ?_ 0 _ rfl; (with_reducible repeat (first | refine blk_drewN ?_ _ | refine blk_drew ?_ | refine blk_alloc ?_ _)); exact BK137.out) Tryd.underlying34 rfl (by kernel_rfl)) rfl ?_
  exact ⟨by first | rfl | (simp [errW_none, errW_some] <;> rfl) | (simp [*, errW_none, errW_some] <;> rfl) | (simp [bne_nil_]; done), by repeat (first | (with_reducible first | exact HB.out | apply below_alloc | apply pw_below_drewN | apply below_drew1 | refine below_set ?_ GE137.out) | exact HB.out)⟩

/-! ### laws_first: function 17 -/
def laws_first.l0 : Nat → List Int → Int → Int → Option (Int)
  | 0, _, _, _ => none
  | k + 1, x5, x6, x7 => if x7 < x6 then (if 0 ≤ x7 then (if x7 < (x5.length : Int) then (if (rd x5 x7) = 0 then (laws_first.l0 k x5 x6 (wrap64 (x7 + 1))) else (some (rd x5 x7))) else (none)) else (none)) else (some 0)
def laws_first.f (k : Nat) (l0 : List Int) : Option (Int) := laws_first.l0 k l0 (l0.length : Int) 0
theorem laws_first.mono_l : ∀ k, (∀ y0 y1 y2, LeO (laws_first.l0 k y0 y1 y2) (laws_first.l0 (k + 1) y0 y1 y2))
  | 0 => fun _ _ _ r h => by simp [laws_first.l0] at h
  | k + 1 => by
    have ih0 := laws_first.mono_l k
    · intro y0 y1 y2
      unfold laws_first.l0
      repeat' first
      | (with_reducible exact ih0 _ _ _)
      | (with_reducible exact LeO.refl _)
      | (with_reducible exact LeO.none _)
      | (with_reducible refine LeO.ite ?_ ?_)
      | (with_reducible refine LeO.bind ?_ (fun _ => ?_))
      | exact ih0 _ _ _
      | exact LeO.none _
      | refine LeO.ite ?_ ?_
      | refine LeO.bind ?_ (fun _ => ?_)
theorem laws_first.mono : ∀ a0 k, LeO (laws_first.f k a0) (laws_first.f (k + 1) a0) := by
  intro a0 k
  have ih0 := laws_first.mono_l k
  unfold laws_first.f
  repeat' first
      | (with_reducible exact ih0 _ _ _)
      | (with_reducible exact LeO.refl _)
      | (with_reducible exact LeO.none _)
      | (with_reducible refine LeO.ite ?_ ?_)
      | (with_reducible refine LeO.bind ?_ (fun _ => ?_))
      | exact ih0 _ _ _
      | exact LeO.none _
      | refine LeO.ite ?_ ?_
      | refine LeO.bind ?_ (fun _ => ?_)
set_option maxHeartbeats 8000000 in
set_option maxRecDepth 100000 in
theorem laws_first.calls (k : Nat) (A0 : Option Addr) (c0 : Nat) (l0 : List Int) (r : Int) (w : World) (hr0 : Kd.C (Kd.int .i64) w A0 l0.length l0) (hc0 : l0.length ≤ c0) (h : laws_first.f k l0 = some r) :
    Calls Tryd.prog 17 #[.slice A0 l0.length c0] w fun e w' => e = .returned (.int .i64 r) ∧ Drawn0 w w' := by
  have HR0 := Aside0.mk hr0
  have HC0 := Aside0.mk hc0
  clear hr0 hc0
  have H : (laws_first.l0 k l0 (l0.length : Int) 0) = some r := h
  clear h
  have H' := Aside0.mk H
  clear H
  go_enter Tryd.func17, Tryd.ntmps17
  go_wp2
  go_loopg [7] k (fun kq v7 w' => ∃ (x7_1 : Int), v7 = .int .i64 x7_1 ∧ Aside0 (laws_first.l0 kq l0 (l0.length : Int) x7_1 = some r) ∧ Aside0 (kq ≤ k) ∧ Drawn0 w w')
  case atStart => exact ⟨(0), (by first | rfl | (simp; done) | (simp [*]; done) | (simp [bne_nil_]; done)), H', ⟨Nat.le_refl _⟩, by repeat (first | exact Drawn0.refl _ | apply Drawn0.step)⟩
  case round =>
    clear H'
    try clear c1
    obtain ⟨x7_1, rfl, HA, HK1, ⟨m1, rfl⟩⟩ := hrel
    cases gk with
    | zero => exact absurd HA.out (by simp [laws_first.l0])
    | succ k1 =>
      have H := HA.out
      clear HA
      simp only [laws_first.l0] at H
      by_cases c2 : x7_1 < (l0.length : Int)
      · rw [if_pos c2] at H
        have c2b0 : decide (x7_1 < (l0.length : Int)) = true := decide_eq_true c2
        clear c2
        by_cases c3 : 0 ≤ x7_1
        · rw [if_pos c3] at H
          have c3b0 : decide (0 ≤ x7_1) = true := decide_eq_true c3
          clear c3
          by_cases c4 : x7_1 < (l0.length : Int)
          · rw [if_pos c4] at H
            have c4b0 : decide (x7_1 < (l0.length : Int)) = true := decide_eq_true c4
            clear c4
            by_cases c5 : (rd l0 x7_1) = 0
            · rw [if_pos c5] at H
              have c5b0 : ((rd l0 x7_1) == 0) = true := beq_iff_eq.mpr c5
              have c5b1 : ((rd l0 x7_1) != 0) = false := bne_eq_false_iff_eq.mpr c5
              clear c5
              have H' := Aside0.mk H
              clear H
              have p144 : 0 ≤ (x7_1 : Int) := of_decide_eq_true (by first | (with_reducible assumption) | assumption)
              have q144 : x7_1 < (l0.length : Int) := of_decide_eq_true (by first | (with_reducible assumption) | assumption)
              obtain ⟨ad144, e144, hx144_0⟩ := Kd.at_int HR0.out x7_1 p144 q144
              cases e144
              replace p144 := eq_true p144
              replace q144 := eq_true q144
              go_wp2
              go_roundg k1
              case measure => have := HK1.out; omega
              case rel => exact ⟨(wrap64 (x7_1 + 1)), (by first | rfl | (simp; done) | (simp [*]; done) | (simp [bne_nil_]; done)), H', ⟨by have := HK1.out; omega⟩, by repeat (first | exact Drawn0.refl _ | apply Drawn0.step)⟩
            · rw [if_neg c5] at H
              have c5b0 : ((rd l0 x7_1) == 0) = false := beq_eq_false_iff_ne.mpr c5
              have c5b1 : ((rd l0 x7_1) != 0) = true := bne_iff_ne.mpr c5
              obtain rfl := Option.some.inj H
              have p144 : 0 ≤ (x7_1 : Int) := of_decide_eq_true (by first | (with_reducible assumption) | assumption)
              have q144 : x7_1 < (l0.length : Int) := of_decide_eq_true (by first | (with_reducible assumption) | assumption)
              obtain ⟨ad144, e144, hx144_0⟩ := Kd.at_int HR0.out x7_1 p144 q144
              cases e144
              replace p144 := eq_true p144
              replace q144 := eq_true q144
              go_wp2
              go_ret
              exact ⟨by first | rfl | (simp; done) | (simp [*]; done) | (simp [bne_nil_]; done), by repeat (first | exact Drawn0.refl _ | apply Drawn0.step)⟩
          · rw [if_neg c4] at H
            exact absurd H (by simp)
        · rw [if_neg c3] at H
          exact absurd H (by simp)
      · rw [if_neg c2] at H
        have c2b0 : decide (x7_1 < (l0.length : Int)) = false := decide_eq_false c2
        clear c2
        obtain rfl := Option.some.inj H
        go_wp2
        go_ret
        exact ⟨by first | rfl | (simp; done) | (simp [*]; done) | (simp [bne_nil_]; done), by repeat (first | exact Drawn0.refl _ | apply Drawn0.step)⟩

/-! ### laws_FnRedHatJoined: function 5 -/
mutual
def laws_FnRedHatJoined.j0 : Nat → ByteArray → ByteArray → ByteArray → ByteArray → ByteArray → ByteArray → Bool → Option (Bool)
  | 0, _, _, _, _, _, _, _ => none
  | k + 1, x0, x1, x2, x3, x4, x5, x43 => if x43 = true then (some true) else ((laws_short.f k (([x0, x1, x2, x3, x4, x5] : List ByteArray))).bind fun t148 => (if t148 = true then ((laws_digits.f k x0).bind fun t149 => (if t149 = true then ((laws_digits.f k x1).bind fun t150 => (if t150 = true then ((laws_plain.f k x2 (⟨#[46, 95, 43, 126, 94]⟩ : ByteArray)).bind fun t151 => (if t151 = true then ((laws_plain.f k x3 (⟨#[46, 95, 43, 126, 94]⟩ : ByteArray)).bind fun t152 => (if t152 = true then ((laws_plain.f k x4 (⟨#[46, 95, 43, 126, 94]⟩ : ByteArray)).bind fun t153 => (if t153 = true then ((laws_plain.f k x5 (⟨#[46, 95, 43, 126, 94]⟩ : ByteArray)).bind fun t154 => (laws_FnRedHatJoined.j1 k x0 x1 x2 x3 x4 x5 (!t154))) else (laws_FnRedHatJoined.j1 k x0 x1 x2 x3 x4 x5 true))) else (laws_FnRedHatJoined.j1 k x0 x1 x2 x3 x4 x5 true))) else (laws_FnRedHatJoined.j1 k x0 x1 x2 x3 x4 x5 true))) else (laws_FnRedHatJoined.j1 k x0 x1 x2 x3 x4 x5 true))) else (laws_FnRedHatJoined.j1 k x0 x1 x2 x3 x4 x5 true))) else (laws_FnRedHatJoined.j1 k x0 x1 x2 x3 x4 x5 true)))
def laws_FnRedHatJoined.j1 : Nat → ByteArray → ByteArray → ByteArray → ByteArray → ByteArray → ByteArray → Bool → Option (Bool)
  | 0, _, _, _, _, _, _, _ => none
  | k + 1, x0, x1, x2, x3, x4, x5, x82 => if x82 = true then (some true) else (if x0.size + 1 ≤ 9223372036854775807 then (if (x0 ++ (⟨#[58]⟩ : ByteArray)).size + x2.size ≤ 9223372036854775807 then (if ((x0 ++ (⟨#[58]⟩ : ByteArray)) ++ x2).size + 1 ≤ 9223372036854775807 then (if (((x0 ++ (⟨#[58]⟩ : ByteArray)) ++ x2) ++ (⟨#[45]⟩ : ByteArray)).size + x4.size ≤ 9223372036854775807 then (if x1.size + 1 ≤ 9223372036854775807 then (if (x1 ++ (⟨#[58]⟩ : ByteArray)).size + x3.size ≤ 9223372036854775807 then (if ((x1 ++ (⟨#[58]⟩ : ByteArray)) ++ x3).size + 1 ≤ 9223372036854775807 then (if (((x1 ++ (⟨#[58]⟩ : ByteArray)) ++ x3) ++ (⟨#[45]⟩ : ByteArray)).size + x5.size ≤ 9223372036854775807 then ((Giv.impl_RedHatCompare.f ((((x0 ++ (⟨#[58]⟩ : ByteArray)) ++ x2) ++ (⟨#[45]⟩ : ByteArray)) ++ x4) ((((x1 ++ (⟨#[58]⟩ : ByteArray)) ++ x3) ++ (⟨#[45]⟩ : ByteArray)) ++ x5)).bind fun bt155 => ((impl_RedHatParse.f k ((((x0 ++ (⟨#[58]⟩ : ByteArray)) ++ x2) ++ (⟨#[45]⟩ : ByteArray)) ++ x4)).bind fun bt157 => (if bt155.2 = true then ((impl_RedHatParts.f x0 x1).bind fun t161 => ((impl_RedHatParts.f x2 x3).bind fun t162 => (if 1 + x4.size ≤ 9223372036854775807 then (if 1 + x5.size ≤ 9223372036854775807 then ((impl_RedHatParts.f ((⟨#[45]⟩ : ByteArray) ++ x4) ((⟨#[45]⟩ : ByteArray) ++ x5)).bind fun t163 => ((laws_first.f k (([t161, t162, t163] : List Int))).bind fun t167 => (if bt155.1 = t167 then (some (bt157.2.1.toList == x2.toList)) else (some false)))) else (none)) else (none)))) else (some false)))) else (none)) else (none)) else (none)) else (none)) else (none)) else (none)) else (none)) else (none))
end
def laws_FnRedHatJoined.f (k : Nat) (a0 : ByteArray) (a1 : ByteArray) (a2 : ByteArray) (a3 : ByteArray) (a4 : ByteArray) (a5 : ByteArray) : Option (Bool) := if (a0.size : Int) > 2147483647 then (laws_FnRedHatJoined.j0 k a0 a1 a2 a3 a4 a5 true) else (if (a1.size : Int) > 2147483647 then (laws_FnRedHatJoined.j0 k a0 a1 a2 a3 a4 a5 true) else (if (a2.size : Int) > 2147483647 then (laws_FnRedHatJoined.j0 k a0 a1 a2 a3 a4 a5 true) else (if (a3.size : Int) > 2147483647 then (laws_FnRedHatJoined.j0 k a0 a1 a2 a3 a4 a5 true) else (if (a4.size : Int) > 2147483647 then (laws_FnRedHatJoined.j0 k a0 a1 a2 a3 a4 a5 true) else (laws_FnRedHatJoined.j0 k a0 a1 a2 a3 a4 a5 (decide ((a5.size : Int) > 2147483647)))))))
theorem laws_FnRedHatJoined.mono_l : ∀ k, (∀ y0 y1 y2 y3 y4 y5 y6, LeO (laws_FnRedHatJoined.j0 k y0 y1 y2 y3 y4 y5 y6) (laws_FnRedHatJoined.j0 (k + 1) y0 y1 y2 y3 y4 y5 y6)) ∧ (∀ y0 y1 y2 y3 y4 y5 y6, LeO (laws_FnRedHatJoined.j1 k y0 y1 y2 y3 y4 y5 y6) (laws_FnRedHatJoined.j1 (k + 1) y0 y1 y2 y3 y4 y5 y6))
  | 0 => ⟨fun _ _ _ _ _ _ _ r h => by simp [laws_FnRedHatJoined.j0] at h, fun _ _ _ _ _ _ _ r h => by simp [laws_FnRedHatJoined.j1] at h⟩
  | k + 1 => by
    obtain ⟨ih0, ih1⟩ := laws_FnRedHatJoined.mono_l k
    refine ⟨?_, ?_⟩
    · intro y0 y1 y2 y3 y4 y5 y6
      unfold laws_FnRedHatJoined.j0
      repeat' first
      | (with_reducible exact ih0 _ _ _ _ _ _ _)
      | (with_reducible exact ih1 _ _ _ _ _ _ _)
      | (with_reducible exact impl_RedHatParse.mono _ _)
      | (with_reducible exact laws_digits.mono _ _)
      | (with_reducible exact laws_first.mono _ _)
      | (with_reducible exact laws_plain.mono _ _ _)
      | (with_reducible exact laws_short.mono _ _)
      | (with_reducible exact LeO.refl _)
      | (with_reducible exact LeO.none _)
      | (with_reducible refine LeO.ite ?_ ?_)
      | (with_reducible refine LeO.bind ?_ (fun _ => ?_))
      | exact ih0 _ _ _ _ _ _ _
      | exact ih1 _ _ _ _ _ _ _
      | exact impl_RedHatParse.mono _ _
      | exact laws_digits.mono _ _
      | exact laws_first.mono _ _
      | exact laws_plain.mono _ _ _
      | exact laws_short.mono _ _
      | exact LeO.none _
      | refine LeO.ite ?_ ?_
      | refine LeO.bind ?_ (fun _ => ?_)
    · intro y0 y1 y2 y3 y4 y5 y6
      unfold laws_FnRedHatJoined.j1
      repeat' first
      | (with_reducible exact ih0 _ _ _ _ _ _ _)
      | (with_reducible exact ih1 _ _ _ _ _ _ _)
      | (with_reducible exact impl_RedHatParse.mono _ _)
      | (with_reducible exact laws_digits.mono _ _)
      | (with_reducible exact laws_first.mono _ _)
      | (with_reducible exact laws_plain.mono _ _ _)
      | (with_reducible exact laws_short.mono _ _)
      | (with_reducible exact LeO.refl _)
      | (with_reducible exact LeO.none _)
      | (with_reducible refine LeO.ite ?_ ?_)
      | (with_reducible refine LeO.bind ?_ (fun _ => ?_))
      | exact ih0 _ _ _ _ _ _ _
      | exact ih1 _ _ _ _ _ _ _
      | exact impl_RedHatParse.mono _ _
      | exact laws_digits.mono _ _
      | exact laws_first.mono _ _
      | exact laws_plain.mono _ _ _
      | exact laws_short.mono _ _
      | exact LeO.none _
      | refine LeO.ite ?_ ?_
      | refine LeO.bind ?_ (fun _ => ?_)
theorem laws_FnRedHatJoined.mono : ∀ a0 a1 a2 a3 a4 a5 k, LeO (laws_FnRedHatJoined.f k a0 a1 a2 a3 a4 a5) (laws_FnRedHatJoined.f (k + 1) a0 a1 a2 a3 a4 a5) := by
  intro a0 a1 a2 a3 a4 a5 k
  obtain ⟨ih0, ih1⟩ := laws_FnRedHatJoined.mono_l k
  unfold laws_FnRedHatJoined.f
  repeat' first
      | (with_reducible exact ih0 _ _ _ _ _ _ _)
      | (with_reducible exact ih1 _ _ _ _ _ _ _)
      | (with_reducible exact impl_RedHatParse.mono _ _)
      | (with_reducible exact laws_digits.mono _ _)
      | (with_reducible exact laws_first.mono _ _)
      | (with_reducible exact laws_plain.mono _ _ _)
      | (with_reducible exact laws_short.mono _ _)
      | (with_reducible exact LeO.refl _)
      | (with_reducible exact LeO.none _)
      | (with_reducible refine LeO.ite ?_ ?_)
      | (with_reducible refine LeO.bind ?_ (fun _ => ?_))
      | exact ih0 _ _ _ _ _ _ _
      | exact ih1 _ _ _ _ _ _ _
      | exact impl_RedHatParse.mono _ _
      | exact laws_digits.mono _ _
      | exact laws_first.mono _ _
      | exact laws_plain.mono _ _ _
      | exact laws_short.mono _ _
      | exact LeO.none _
      | refine LeO.ite ?_ ?_
      | refine LeO.bind ?_ (fun _ => ?_)
set_option maxHeartbeats 8000000 in
set_option maxRecDepth 100000 in
theorem laws_FnRedHatJoined.calls (k : Nat) (a0 : ByteArray) (a1 : ByteArray) (a2 : ByteArray) (a3 : ByteArray) (a4 : ByteArray) (a5 : ByteArray) (r : Bool) (w : World) (h : laws_FnRedHatJoined.f k a0 a1 a2 a3 a4 a5 = some r) :
    Calls Tryd.prog 5 #[.string a0, .string a1, .string a2, .string a3, .string a4, .string a5] w fun e w' => e = .returned (.bool r) ∧ Below w.heap.size w w' := by
  have hu34 := Tryd.underlying34
  have HB := Aside0.mk (Below.refl w.heap.size w)
  have H : (if (a0.size : Int) > 2147483647 then (laws_FnRedHatJoined.j0 k a0 a1 a2 a3 a4 a5 true) else (if (a1.size : Int) > 2147483647 then (laws_FnRedHatJoined.j0 k a0 a1 a2 a3 a4 a5 true) else (if (a2.size : Int) > 2147483647 then (laws_FnRedHatJoined.j0 k a0 a1 a2 a3 a4 a5 true) else (if (a3.size : Int) > 2147483647 then (laws_FnRedHatJoined.j0 k a0 a1 a2 a3 a4 a5 true) else (if (a4.size : Int) > 2147483647 then (laws_FnRedHatJoined.j0 k a0 a1 a2 a3 a4 a5 true) else (laws_FnRedHatJoined.j0 k a0 a1 a2 a3 a4 a5 (decide ((a5.size : Int) > 2147483647)))))))) = some r := h
  clear h
  have HC7 := Aside0.mk H
  clear H
  go_enter Tryd.func5, Tryd.ntmps5
  go_upto_region 1 with (fail)
  go_cut [43] (fun v43 wc => ∃ (kq : Nat) (x43_6 : Bool), v43 = .bool x43_6 ∧ Aside0 (laws_FnRedHatJoined.j0 kq a0 a1 a2 a3 a4 a5 x43_6 = some r) ∧ Aside0 (kq ≤ k) ∧ Aside0 (Below w.heap.size w wc))
  case first =>
    have H := HC7.out
    clear HC7
    by_cases c8 : (a0.size : Int) > 2147483647
    · rw [if_pos c8] at H
      have c8b0 : decide (2147483647 < (a0.size : Int)) = true := decide_eq_true c8
      have c8b1 : decide (2147483647 < a0.size) = true := decide_eq_true (by omega)
      clear c8
      (first | rw [c8b0] | (simp only [i64_w, i32_w]; rw [c8b0]) | skip)
      have H' := Aside0.mk H
      clear H
      go_wp2
      go_meet
      case rel => exact ⟨_, (true), (by first | rfl | (simp; done) | (simp [*]; done) | (simp [bne_nil_]; done)), H', ⟨by first | omega | exact Nat.le_refl _⟩, ⟨by repeat (first | (with_reducible first | exact HB.out | apply below_alloc | apply pw_below_drewN | apply below_drew1) | exact HB.out)⟩⟩
    · rw [if_neg c8] at H
      have c8b0 : decide (2147483647 < (a0.size : Int)) = false := decide_eq_false c8
      have c8b1 : decide (2147483647 < a0.size) = false := decide_eq_false (by omega)
      clear c8
      (first | rw [c8b0] | (simp only [i64_w, i32_w]; rw [c8b0]) | skip)
      by_cases c9 : (a1.size : Int) > 2147483647
      · rw [if_pos c9] at H
        have c9b0 : decide (2147483647 < (a1.size : Int)) = true := decide_eq_true c9
        have c9b1 : decide (2147483647 < a1.size) = true := decide_eq_true (by omega)
        clear c9
        have H' := Aside0.mk H
        clear H
        go_wp2
        go_meet
        case rel => exact ⟨_, (true), (by first | rfl | (simp; done) | (simp [*]; done) | (simp [bne_nil_]; done)), H', ⟨by first | omega | exact Nat.le_refl _⟩, ⟨by repeat (first | (with_reducible first | exact HB.out | apply below_alloc | apply pw_below_drewN | apply below_drew1) | exact HB.out)⟩⟩
      · rw [if_neg c9] at H
        have c9b0 : decide (2147483647 < (a1.size : Int)) = false := decide_eq_false c9
        have c9b1 : decide (2147483647 < a1.size) = false := decide_eq_false (by omega)
        clear c9
        by_cases c10 : (a2.size : Int) > 2147483647
        · rw [if_pos c10] at H
          have c10b0 : decide (2147483647 < (a2.size : Int)) = true := decide_eq_true c10
          have c10b1 : decide (2147483647 < a2.size) = true := decide_eq_true (by omega)
          clear c10
          have H' := Aside0.mk H
          clear H
          go_wp2
          go_meet
          case rel => exact ⟨_, (true), (by first | rfl | (simp; done) | (simp [*]; done) | (simp [bne_nil_]; done)), H', ⟨by first | omega | exact Nat.le_refl _⟩, ⟨by repeat (first | (with_reducible first | exact HB.out | apply below_alloc | apply pw_below_drewN | apply below_drew1) | exact HB.out)⟩⟩
        · rw [if_neg c10] at H
          have c10b0 : decide (2147483647 < (a2.size : Int)) = false := decide_eq_false c10
          have c10b1 : decide (2147483647 < a2.size) = false := decide_eq_false (by omega)
          clear c10
          by_cases c11 : (a3.size : Int) > 2147483647
          · rw [if_pos c11] at H
            have c11b0 : decide (2147483647 < (a3.size : Int)) = true := decide_eq_true c11
            have c11b1 : decide (2147483647 < a3.size) = true := decide_eq_true (by omega)
            clear c11
            have H' := Aside0.mk H
            clear H
            go_wp2
            go_meet
            case rel => exact ⟨_, (true), (by first | rfl | (simp; done) | (simp [*]; done) | (simp [bne_nil_]; done)), H', ⟨by first | omega | exact Nat.le_refl _⟩, ⟨by repeat (first | (with_reducible first | exact HB.out | apply below_alloc | apply pw_below_drewN | apply below_drew1) | exact HB.out)⟩⟩
          · rw [if_neg c11] at H
            have c11b0 : decide (2147483647 < (a3.size : Int)) = false := decide_eq_false c11
            have c11b1 : decide (2147483647 < a3.size) = false := decide_eq_false (by omega)
            clear c11
            by_cases c12 : (a4.size : Int) > 2147483647
            · rw [if_pos c12] at H
              have c12b0 : decide (2147483647 < (a4.size : Int)) = true := decide_eq_true c12
              have c12b1 : decide (2147483647 < a4.size) = true := decide_eq_true (by omega)
              clear c12
              have H' := Aside0.mk H
              clear H
              go_wp2
              go_meet
              case rel => exact ⟨_, (true), (by first | rfl | (simp; done) | (simp [*]; done) | (simp [bne_nil_]; done)), H', ⟨by first | omega | exact Nat.le_refl _⟩, ⟨by repeat (first | (with_reducible first | exact HB.out | apply below_alloc | apply pw_below_drewN | apply below_drew1) | exact HB.out)⟩⟩
            · rw [if_neg c12] at H
              have c12b0 : decide (2147483647 < (a4.size : Int)) = false := decide_eq_false c12
              have c12b1 : decide (2147483647 < a4.size) = false := decide_eq_false (by omega)
              clear c12
              have H' := Aside0.mk H
              clear H
              go_wp2
              go_meet
              case rel => exact ⟨_, (decide ((a5.size : Int) > 2147483647)), (by first | rfl | (simp; done) | (simp [*]; done) | (simp [bne_nil_]; done)), H', ⟨by first | omega | exact Nat.le_refl _⟩, ⟨by repeat (first | (with_reducible first | exact HB.out | apply below_alloc | apply pw_below_drewN | apply below_drew1) | exact HB.out)⟩⟩
  case rest =>
    clear HC7
    try clear c1
    try clear p2
    try clear c5
    try clear c8
    try clear c8b0
    try clear c8b1
    try clear c9
    try clear c9b0
    try clear c9b1
    try clear c10
    try clear c10b0
    try clear c10b1
    try clear c11
    try clear c11b0
    try clear c11b1
    try clear c12
    try clear c12b0
    try clear c12b1
    obtain ⟨kq, x43_6, rfl, HA, HJ6, HB⟩ := hcut
    cases kq with
    | zero => exact absurd HA.out (by simp [laws_FnRedHatJoined.j0])
    | succ kj6 =>
      have H := HA.out
      clear HA
      simp only [laws_FnRedHatJoined.j0] at H
      by_cases c13 : x43_6 = true
      · subst c13
        have H1 : (some true) = some r := by rw [if_pos rfl] at H; exact H
        clear H
        have H := H1
        clear H1
        obtain rfl := Option.some.inj H
        go_wp2
        go_ret
        exact ⟨by first | rfl | (simp [errW_none, errW_some] <;> rfl) | (simp [*, errW_none, errW_some] <;> rfl) | (simp [bne_nil_]; done), by repeat (first | (with_reducible first | exact HB.out | apply below_alloc | apply pw_below_drewN | apply below_drew1) | exact HB.out)⟩
      · replace c13 := Bool.eq_false_iff.mpr c13
        subst c13
        have H1 : ((laws_short.f kj6 (([a0, a1, a2, a3, a4, a5] : List ByteArray))).bind fun t148 => (if t148 = true then ((laws_digits.f kj6 a0).bind fun t149 => (if t149 = true then ((laws_digits.f kj6 a1).bind fun t150 => (if t150 = true then ((laws_plain.f kj6 a2 (⟨#[46, 95, 43, 126, 94]⟩ : ByteArray)).bind fun t151 => (if t151 = true then ((laws_plain.f kj6 a3 (⟨#[46, 95, 43, 126, 94]⟩ : ByteArray)).bind fun t152 => (if t152 = true then ((laws_plain.f kj6 a4 (⟨#[46, 95, 43, 126, 94]⟩ : ByteArray)).bind fun t153 => (if t153 = true then ((laws_plain.f kj6 a5 (⟨#[46, 95, 43, 126, 94]⟩ : ByteArray)).bind fun t154 => (laws_FnRedHatJoined.j1 kj6 a0 a1 a2 a3 a4 a5 (!t154))) else (laws_FnRedHatJoined.j1 kj6 a0 a1 a2 a3 a4 a5 true))) else (laws_FnRedHatJoined.j1 kj6 a0 a1 a2 a3 a4 a5 true))) else (laws_FnRedHatJoined.j1 kj6 a0 a1 a2 a3 a4 a5 true))) else (laws_FnRedHatJoined.j1 kj6 a0 a1 a2 a3 a4 a5 true))) else (laws_FnRedHatJoined.j1 kj6 a0 a1 a2 a3 a4 a5 true))) else (laws_FnRedHatJoined.j1 kj6 a0 a1 a2 a3 a4 a5 true))) = some r := by rw [if_neg (show ¬ (false = true) by decide)] at H; exact H
        clear H
        have H := H1
        clear H1
        have HC14 := Aside0.mk H
        clear H
        go_upto_region 3 with (fail)
        go_cut [82] (fun v82 wc => ∃ (kq : Nat) (x82_13 : Bool), v82 = .bool x82_13 ∧ Aside0 (laws_FnRedHatJoined.j1 kq a0 a1 a2 a3 a4 a5 x82_13 = some r) ∧ Aside0 (kq ≤ kj6) ∧ Aside0 (Below w.heap.size w wc))
        case first =>
          have H := HC14.out
          clear HC14
          obtain ⟨y145, hy145⟩ : ∃ y_ : List ByteArray, y_ = (([a0, a1, a2, a3, a4, a5] : List ByteArray)) := ⟨_, rfl⟩
          replace H : ((laws_short.f kj6 y145).bind fun t148 => (if t148 = true then ((laws_digits.f kj6 a0).bind fun t149 => (if t149 = true then ((laws_digits.f kj6 a1).bind fun t150 => (if t150 = true then ((laws_plain.f kj6 a2 (⟨#[46, 95, 43, 126, 94]⟩ : ByteArray)).bind fun t151 => (if t151 = true then ((laws_plain.f kj6 a3 (⟨#[46, 95, 43, 126, 94]⟩ : ByteArray)).bind fun t152 => (if t152 = true then ((laws_plain.f kj6 a4 (⟨#[46, 95, 43, 126, 94]⟩ : ByteArray)).bind fun t153 => (if t153 = true then ((laws_plain.f kj6 a5 (⟨#[46, 95, 43, 126, 94]⟩ : ByteArray)).bind fun t154 => (laws_FnRedHatJoined.j1 kj6 a0 a1 a2 a3 a4 a5 (!t154))) else (laws_FnRedHatJoined.j1 kj6 a0 a1 a2 a3 a4 a5 true))) else (laws_FnRedHatJoined.j1 kj6 a0 a1 a2 a3 a4 a5 true))) else (laws_FnRedHatJoined.j1 kj6 a0 a1 a2 a3 a4 a5 true))) else (laws_FnRedHatJoined.j1 kj6 a0 a1 a2 a3 a4 a5 true))) else (laws_FnRedHatJoined.j1 kj6 a0 a1 a2 a3 a4 a5 true))) else (laws_FnRedHatJoined.j1 kj6 a0 a1 a2 a3 a4 a5 true))) = some r := by first | (rw [hy145]; with_reducible exact H) | (have H2_ := (Option.bind_some _ _).symm.trans H; rw [hy145]; with_reducible exact H2_) | (have H2_ := (Option.bind_some _ _).symm.trans H; with_reducible exact H2_) | with_reducible exact H | (rw [hy145]; exact H) | exact H
          have Ny145 := Aside0.mk hy145
          clear hy145
          replace H := Option.bind_eq_some_iff.mp H
          obtain ⟨t148, A150, H⟩ := H
          replace H : (if t148 = true then ((laws_digits.f kj6 a0).bind fun t149 => (if t149 = true then ((laws_digits.f kj6 a1).bind fun t150 => (if t150 = true then ((laws_plain.f kj6 a2 (⟨#[46, 95, 43, 126, 94]⟩ : ByteArray)).bind fun t151 => (if t151 = true then ((laws_plain.f kj6 a3 (⟨#[46, 95, 43, 126, 94]⟩ : ByteArray)).bind fun t152 => (if t152 = true then ((laws_plain.f kj6 a4 (⟨#[46, 95, 43, 126, 94]⟩ : ByteArray)).bind fun t153 => (if t153 = true then ((laws_plain.f kj6 a5 (⟨#[46, 95, 43, 126, 94]⟩ : ByteArray)).bind fun t154 => (laws_FnRedHatJoined.j1 kj6 a0 a1 a2 a3 a4 a5 (!t154))) else (laws_FnRedHatJoined.j1 kj6 a0 a1 a2 a3 a4 a5 true))) else (laws_FnRedHatJoined.j1 kj6 a0 a1 a2 a3 a4 a5 true))) else (laws_FnRedHatJoined.j1 kj6 a0 a1 a2 a3 a4 a5 true))) else (laws_FnRedHatJoined.j1 kj6 a0 a1 a2 a3 a4 a5 true))) else (laws_FnRedHatJoined.j1 kj6 a0 a1 a2 a3 a4 a5 true))) else (laws_FnRedHatJoined.j1 kj6 a0 a1 a2 a3 a4 a5 true)) = some r := H
          have A15 := Aside0.mk A150
          clear A150
          by_cases c16 : t148 = true
          · subst c16
            have H1 : ((laws_digits.f kj6 a0).bind fun t149 => (if t149 = true then ((laws_digits.f kj6 a1).bind fun t150 => (if t150 = true then ((laws_plain.f kj6 a2 (⟨#[46, 95, 43, 126, 94]⟩ : ByteArray)).bind fun t151 => (if t151 = true then ((laws_plain.f kj6 a3 (⟨#[46, 95, 43, 126, 94]⟩ : ByteArray)).bind fun t152 => (if t152 = true then ((laws_plain.f kj6 a4 (⟨#[46, 95, 43, 126, 94]⟩ : ByteArray)).bind fun t153 => (if t153 = true then ((laws_plain.f kj6 a5 (⟨#[46, 95, 43, 126, 94]⟩ : ByteArray)).bind fun t154 => (laws_FnRedHatJoined.j1 kj6 a0 a1 a2 a3 a4 a5 (!t154))) else (laws_FnRedHatJoined.j1 kj6 a0 a1 a2 a3 a4 a5 true))) else (laws_FnRedHatJoined.j1 kj6 a0 a1 a2 a3 a4 a5 true))) else (laws_FnRedHatJoined.j1 kj6 a0 a1 a2 a3 a4 a5 true))) else (laws_FnRedHatJoined.j1 kj6 a0 a1 a2 a3 a4 a5 true))) else (laws_FnRedHatJoined.j1 kj6 a0 a1 a2 a3 a4 a5 true))) = some r := by rw [if_pos rfl] at H; exact H
            clear H
            have H := H1
            clear H1
            replace H := Option.bind_eq_some_iff.mp H
            obtain ⟨t149, A170, H⟩ := H
            replace H : (if t149 = true then ((laws_digits.f kj6 a1).bind fun t150 => (if t150 = true then ((laws_plain.f kj6 a2 (⟨#[46, 95, 43, 126, 94]⟩ : ByteArray)).bind fun t151 => (if t151 = true then ((laws_plain.f kj6 a3 (⟨#[46, 95, 43, 126, 94]⟩ : ByteArray)).bind fun t152 => (if t152 = true then ((laws_plain.f kj6 a4 (⟨#[46, 95, 43, 126, 94]⟩ : ByteArray)).bind fun t153 => (if t153 = true then ((laws_plain.f kj6 a5 (⟨#[46, 95, 43, 126, 94]⟩ : ByteArray)).bind fun t154 => (laws_FnRedHatJoined.j1 kj6 a0 a1 a2 a3 a4 a5 (!t154))) else (laws_FnRedHatJoined.j1 kj6 a0 a1 a2 a3 a4 a5 true))) else (laws_FnRedHatJoined.j1 kj6 a0 a1 a2 a3 a4 a5 true))) else (laws_FnRedHatJoined.j1 kj6 a0 a1 a2 a3 a4 a5 true))) else (laws_FnRedHatJoined.j1 kj6 a0 a1 a2 a3 a4 a5 true))) else (laws_FnRedHatJoined.j1 kj6 a0 a1 a2 a3 a4 a5 true)) = some r := H
            have A17 := Aside0.mk A170
            clear A170
            by_cases c18 : t149 = true
            · subst c18
              have H1 : ((laws_digits.f kj6 a1).bind fun t150 => (if t150 = true then ((laws_plain.f kj6 a2 (⟨#[46, 95, 43, 126, 94]⟩ : ByteArray)).bind fun t151 => (if t151 = true then ((laws_plain.f kj6 a3 (⟨#[46, 95, 43, 126, 94]⟩ : ByteArray)).bind fun t152 => (if t152 = true then ((laws_plain.f kj6 a4 (⟨#[46, 95, 43, 126, 94]⟩ : ByteArray)).bind fun t153 => (if t153 = true then ((laws_plain.f kj6 a5 (⟨#[46, 95, 43, 126, 94]⟩ : ByteArray)).bind fun t154 => (laws_FnRedHatJoined.j1 kj6 a0 a1 a2 a3 a4 a5 (!t154))) else (laws_FnRedHatJoined.j1 kj6 a0 a1 a2 a3 a4 a5 true))) else (laws_FnRedHatJoined.j1 kj6 a0 a1 a2 a3 a4 a5 true))) else (laws_FnRedHatJoined.j1 kj6 a0 a1 a2 a3 a4 a5 true))) else (laws_FnRedHatJoined.j1 kj6 a0 a1 a2 a3 a4 a5 true))) = some r := by rw [if_pos rfl] at H; exact H
              clear H
              have H := H1
              clear H1
              replace H := Option.bind_eq_some_iff.mp H
              obtain ⟨t150, A190, H⟩ := H
              replace H : (if t150 = true then ((laws_plain.f kj6 a2 (⟨#[46, 95, 43, 126, 94]⟩ : ByteArray)).bind fun t151 => (if t151 = true then ((laws_plain.f kj6 a3 (⟨#[46, 95, 43, 126, 94]⟩ : ByteArray)).bind fun t152 => (if t152 = true then ((laws_plain.f kj6 a4 (⟨#[46, 95, 43, 126, 94]⟩ : ByteArray)).bind fun t153 => (if t153 = true then ((laws_plain.f kj6 a5 (⟨#[46, 95, 43, 126, 94]⟩ : ByteArray)).bind fun t154 => (laws_FnRedHatJoined.j1 kj6 a0 a1 a2 a3 a4 a5 (!t154))) else (laws_FnRedHatJoined.j1 kj6 a0 a1 a2 a3 a4 a5 true))) else (laws_FnRedHatJoined.j1 kj6 a0 a1 a2 a3 a4 a5 true))) else (laws_FnRedHatJoined.j1 kj6 a0 a1 a2 a3 a4 a5 true))) else (laws_FnRedHatJoined.j1 kj6 a0 a1 a2 a3 a4 a5 true)) = some r := H
              have A19 := Aside0.mk A190
              clear A190
              by_cases c20 : t150 = true
              · subst c20
                have H1 : ((laws_plain.f kj6 a2 (⟨#[46, 95, 43, 126, 94]⟩ : ByteArray)).bind fun t151 => (if t151 = true then ((laws_plain.f kj6 a3 (⟨#[46, 95, 43, 126, 94]⟩ : ByteArray)).bind fun t152 => (if t152 = true then ((laws_plain.f kj6 a4 (⟨#[46, 95, 43, 126, 94]⟩ : ByteArray)).bind fun t153 => (if t153 = true then ((laws_plain.f kj6 a5 (⟨#[46, 95, 43, 126, 94]⟩ : ByteArray)).bind fun t154 => (laws_FnRedHatJoined.j1 kj6 a0 a1 a2 a3 a4 a5 (!t154))) else (laws_FnRedHatJoined.j1 kj6 a0 a1 a2 a3 a4 a5 true))) else (laws_FnRedHatJoined.j1 kj6 a0 a1 a2 a3 a4 a5 true))) else (laws_FnRedHatJoined.j1 kj6 a0 a1 a2 a3 a4 a5 true))) = some r := by rw [if_pos rfl] at H; exact H
                clear H
                have H := H1
                clear H1
                replace H := Option.bind_eq_some_iff.mp H
                obtain ⟨t151, A210, H⟩ := H
                replace H : (if t151 = true then ((laws_plain.f kj6 a3 (⟨#[46, 95, 43, 126, 94]⟩ : ByteArray)).bind fun t152 => (if t152 = true then ((laws_plain.f kj6 a4 (⟨#[46, 95, 43, 126, 94]⟩ : ByteArray)).bind fun t153 => (if t153 = true then ((laws_plain.f kj6 a5 (⟨#[46, 95, 43, 126, 94]⟩ : ByteArray)).bind fun t154 => (laws_FnRedHatJoined.j1 kj6 a0 a1 a2 a3 a4 a5 (!t154))) else (laws_FnRedHatJoined.j1 kj6 a0 a1 a2 a3 a4 a5 true))) else (laws_FnRedHatJoined.j1 kj6 a0 a1 a2 a3 a4 a5 true))) else (laws_FnRedHatJoined.j1 kj6 a0 a1 a2 a3 a4 a5 true)) = some r := H
                have A21 := Aside0.mk A210
                clear A210
                by_cases c22 : t151 = true
                · subst c22
                  have H1 : ((laws_plain.f kj6 a3 (⟨#[46, 95, 43, 126, 94]⟩ : ByteArray)).bind fun t152 => (if t152 = true then ((laws_plain.f kj6 a4 (⟨#[46, 95, 43, 126, 94]⟩ : ByteArray)).bind fun t153 => (if t153 = true then ((laws_plain.f kj6 a5 (⟨#[46, 95, 43, 126, 94]⟩ : ByteArray)).bind fun t154 => (laws_FnRedHatJoined.j1 kj6 a0 a1 a2 a3 a4 a5 (!t154))) else (laws_FnRedHatJoined.j1 kj6 a0 a1 a2 a3 a4 a5 true))) else (laws_FnRedHatJoined.j1 kj6 a0 a1 a2 a3 a4 a5 true))) = some r := by rw [if_pos rfl] at H; exact H
                  clear H
                  have H := H1
                  clear H1
                  replace H := Option.bind_eq_some_iff.mp H
                  obtain ⟨t152, A230, H⟩ := H
                  replace H : (if t152 = true then ((laws_plain.f kj6 a4 (⟨#[46, 95, 43, 126, 94]⟩ : ByteArray)).bind fun t153 => (if t153 = true then ((laws_plain.f kj6 a5 (⟨#[46, 95, 43, 126, 94]⟩ : ByteArray)).bind fun t154 => (laws_FnRedHatJoined.j1 kj6 a0 a1 a2 a3 a4 a5 (!t154))) else (laws_FnRedHatJoined.j1 kj6 a0 a1 a2 a3 a4 a5 true))) else (laws_FnRedHatJoined.j1 kj6 a0 a1 a2 a3 a4 a5 true)) = some r := H
                  have A23 := Aside0.mk A230
                  clear A230
                  by_cases c24 : t152 = true
                  · subst c24
                    have H1 : ((laws_plain.f kj6 a4 (⟨#[46, 95, 43, 126, 94]⟩ : ByteArray)).bind fun t153 => (if t153 = true then ((laws_plain.f kj6 a5 (⟨#[46, 95, 43, 126, 94]⟩ : ByteArray)).bind fun t154 => (laws_FnRedHatJoined.j1 kj6 a0 a1 a2 a3 a4 a5 (!t154))) else (laws_FnRedHatJoined.j1 kj6 a0 a1 a2 a3 a4 a5 true))) = some r := by rw [if_pos rfl] at H; exact H
                    clear H
                    have H := H1
                    clear H1
                    replace H := Option.bind_eq_some_iff.mp H
                    obtain ⟨t153, A250, H⟩ := H
                    replace H : (if t153 = true then ((laws_plain.f kj6 a5 (⟨#[46, 95, 43, 126, 94]⟩ : ByteArray)).bind fun t154 => (laws_FnRedHatJoined.j1 kj6 a0 a1 a2 a3 a4 a5 (!t154))) else (laws_FnRedHatJoined.j1 kj6 a0 a1 a2 a3 a4 a5 true)) = some r := H
                    have A25 := Aside0.mk A250
                    clear A250
                    by_cases c26 : t153 = true
                    · subst c26
                      have H1 : ((laws_plain.f kj6 a5 (⟨#[46, 95, 43, 126, 94]⟩ : ByteArray)).bind fun t154 => (laws_FnRedHatJoined.j1 kj6 a0 a1 a2 a3 a4 a5 (!t154))) = some r := by rw [if_pos rfl] at H; exact H
                      clear H
                      have H := H1
                      clear H1
                      replace H := Option.bind_eq_some_iff.mp H
                      obtain ⟨t154, A270, H⟩ := H
                      replace H : (laws_FnRedHatJoined.j1 kj6 a0 a1 a2 a3 a4 a5 (!t154)) = some r := H
                      have A27 := Aside0.mk A270
                      clear A270
                      have H' := Aside0.mk H
                      clear H
                      go_wp2_with (first | ((with_reducible refine gate_dst (N := 50) rfl ?_); (try (refine gate_guard (by rfl) ?_; dsimp only)); refine Kd.R_lit Kd.string _ 9 ?hg (N := 50) ?hd (xs := ([a0, a1, a2, a3, a4, a5] : List ByteArray)) (inner := [.string a0, .string a1, .string a2, .string a3, .string a4, .string a5]) (ok := fun _ => True) (okp := fun _ => True) ?hr ?hp (fun _ hk => hk) trivial (Below.refl _ _) (Nat.le_refl _) (by simp) ?_; (case hd => rfl); (case hg => rfl); (case hr => first | (go_simp; done) | (go_simp; rfl)); (case hp => exact (Reps.one (show Kd.M Kd.string _ _ _ a0 [.string a0] from rfl) (Reps.one (show Kd.M Kd.string _ _ _ a1 [.string a1] from rfl) (Reps.one (show Kd.M Kd.string _ _ _ a2 [.string a2] from rfl) (Reps.one (show Kd.M Kd.string _ _ _ a3 [.string a3] from rfl) (Reps.one (show Kd.M Kd.string _ _ _ a4 [.string a4] from rfl) (Reps.one (show Kd.M Kd.string _ _ _ a5 [.string a5] from rfl) (Reps.none _ _)))))))); intro v146 w28 ho29 hb hg_ hnew_; clear hg_ hnew_; (first | rw [← Ny145.out] at ho29 | (simp only [Int.reduceToNat] at ho29; rw [← Ny145.out] at ho29)); have n0_ := Aside0.mk (Kd.R_lower ho29 (below_size (by repeat (first | (with_reducible first | exact HB.out | apply below_alloc | apply pw_below_drewN | apply below_drew1) | exact HB.out)))); have n1_ := Aside0.mk (below_step (by repeat (first | (with_reducible first | exact HB.out | apply below_alloc | apply pw_below_drewN | apply below_drew1) | exact HB.out)) hb); clear HB; have HO147 := n0_; have HB := n1_; clear n0_ n1_; clear hb ho29; obtain ⟨Ao30, co30, eo30⟩ := Kd.R_slice HO147.out; subst eo30) | ((with_reducible refine gate_callee (f := 7) rfl ?_); refine goesL_ (some 51) rfl rfl Tryd.func7 (by kernel_rfl) rfl #[.slice Ao30 y145.length co30] rfl (by (try simp only [List.map_toArray, List.map_cons, List.map_nil]); first | done | rfl | (simp only [List.length_drop, List.length_take]; rfl)) ?_; (with_reducible refine (laws_short.calls kj6 _ _ y145 true _ ?side1 ?side2 A15.out).mono ?_); (case side1 => repeat (first | exact (Kd.R_reads' HO147.out).2.2 | (with_reducible refine Kd.C_alloc ?_ _) | (with_reducible refine Kd.C_drewN ?_ _) | (with_reducible refine Kd.C_drew ?_))); (case side2 => exact (Kd.R_reads' HO147.out).2.1); rintro e w' ⟨rfl, ⟨nd, rfl⟩⟩; refine ⟨_, rfl, ?_⟩) | (go_at_call 15; (with_reducible refine (laws_digits.calls kj6 a0 true _ A17.out).mono ?_); rintro e w' ⟨rfl, ⟨nd, rfl⟩⟩) | (go_at_call 15; (with_reducible refine (laws_digits.calls kj6 a1 true _ A19.out).mono ?_); rintro e w' ⟨rfl, ⟨nd, rfl⟩⟩) | (go_at_call 8; (with_reducible refine (laws_plain.calls kj6 a2 (⟨#[46, 95, 43, 126, 94]⟩ : ByteArray) true _ A21.out).mono ?_); rintro e w' ⟨rfl, ⟨nd, rfl⟩⟩) | (go_at_call 8; (with_reducible refine (laws_plain.calls kj6 a3 (⟨#[46, 95, 43, 126, 94]⟩ : ByteArray) true _ A23.out).mono ?_); rintro e w' ⟨rfl, ⟨nd, rfl⟩⟩) | (go_at_call 8; (with_reducible refine (laws_plain.calls kj6 a4 (⟨#[46, 95, 43, 126, 94]⟩ : ByteArray) true _ A25.out).mono ?_); rintro e w' ⟨rfl, ⟨nd, rfl⟩⟩) | (go_at_call 8; (with_reducible refine (laws_plain.calls kj6 a5 (⟨#[46, 95, 43, 126, 94]⟩ : ByteArray) t154 _ A27.out).mono ?_); rintro e w' ⟨rfl, ⟨nd, rfl⟩⟩))
                      go_meet
                      case rel => exact ⟨_, (!t154), (by first | rfl | (simp; done) | (simp [*]; done) | (simp [bne_nil_]; done)), H', ⟨by have := HJ6.out; first | omega | exact Nat.le_refl _⟩, ⟨by repeat (first | (with_reducible first | exact HB.out | apply below_alloc | apply pw_below_drewN | apply below_drew1) | exact HB.out)⟩⟩
                    · replace c26 := Bool.eq_false_iff.mpr c26
                      subst c26
                      have H1 : (laws_FnRedHatJoined.j1 kj6 a0 a1 a2 a3 a4 a5 true) = some r := by rw [if_neg (show ¬ (false = true) by decide)] at H; exact H
                      clear H
                      have H := H1
                      clear H1
                      have H' := Aside0.mk H
                      clear H
                      go_wp2_with (first | ((with_reducible refine gate_dst (N := 50) rfl ?_); (try (refine gate_guard (by rfl) ?_; dsimp only)); refine Kd.R_lit Kd.string _ 9 ?hg (N := 50) ?hd (xs := ([a0, a1, a2, a3, a4, a5] : List ByteArray)) (inner := [.string a0, .string a1, .string a2, .string a3, .string a4, .string a5]) (ok := fun _ => True) (okp := fun _ => True) ?hr ?hp (fun _ hk => hk) trivial (Below.refl _ _) (Nat.le_refl _) (by simp) ?_; (case hd => rfl); (case hg => rfl); (case hr => first | (go_simp; done) | (go_simp; rfl)); (case hp => exact (Reps.one (show Kd.M Kd.string _ _ _ a0 [.string a0] from rfl) (Reps.one (show Kd.M Kd.string _ _ _ a1 [.string a1] from rfl) (Reps.one (show Kd.M Kd.string _ _ _ a2 [.string a2] from rfl) (Reps.one (show Kd.M Kd.string _ _ _ a3 [.string a3] from rfl) (Reps.one (show Kd.M Kd.string _ _ _ a4 [.string a4] from rfl) (Reps.one (show Kd.M Kd.string _ _ _ a5 [.string a5] from rfl) (Reps.none _ _)))))))); intro v146 w31 ho32 hb hg_ hnew_; clear hg_ hnew_; (first | rw [← Ny145.out] at ho32 | (simp only [Int.reduceToNat] at ho32; rw [← Ny145.out] at ho32)); have n0_ := Aside0.mk (Kd.R_lower ho32 (below_size (by repeat (first | (with_reducible first | exact HB.out | apply below_alloc | apply pw_below_drewN | apply below_drew1) | exact HB.out)))); have n1_ := Aside0.mk (below_step (by repeat (first | (with_reducible first | exact HB.out | apply below_alloc | apply pw_below_drewN | apply below_drew1) | exact HB.out)) hb); clear HB; have HO147 := n0_; have HB := n1_; clear n0_ n1_; clear hb ho32; obtain ⟨Ao33, co33, eo33⟩ := Kd.R_slice HO147.out; subst eo33) | ((with_reducible refine gate_callee (f := 7) rfl ?_); refine goesL_ (some 51) rfl rfl Tryd.func7 (by kernel_rfl) rfl #[.slice Ao33 y145.length co33] rfl (by (try simp only [List.map_toArray, List.map_cons, List.map_nil]); first | done | rfl | (simp only [List.length_drop, List.length_take]; rfl)) ?_; (with_reducible refine (laws_short.calls kj6 _ _ y145 true _ ?side1 ?side2 A15.out).mono ?_); (case side1 => repeat (first | exact (Kd.R_reads' HO147.out).2.2 | (with_reducible refine Kd.C_alloc ?_ _) | (with_reducible refine Kd.C_drewN ?_ _) | (with_reducible refine Kd.C_drew ?_))); (case side2 => exact (Kd.R_reads' HO147.out).2.1); rintro e w' ⟨rfl, ⟨nd, rfl⟩⟩; refine ⟨_, rfl, ?_⟩) | (go_at_call 15; (with_reducible refine (laws_digits.calls kj6 a0 true _ A17.out).mono ?_); rintro e w' ⟨rfl, ⟨nd, rfl⟩⟩) | (go_at_call 15; (with_reducible refine (laws_digits.calls kj6 a1 true _ A19.out).mono ?_); rintro e w' ⟨rfl, ⟨nd, rfl⟩⟩) | (go_at_call 8; (with_reducible refine (laws_plain.calls kj6 a2 (⟨#[46, 95, 43, 126, 94]⟩ : ByteArray) true _ A21.out).mono ?_); rintro e w' ⟨rfl, ⟨nd, rfl⟩⟩) | (go_at_call 8; (with_reducible refine (laws_plain.calls kj6 a3 (⟨#[46, 95, 43, 126, 94]⟩ : ByteArray) true _ A23.out).mono ?_); rintro e w' ⟨rfl, ⟨nd, rfl⟩⟩) | (go_at_call 8; (with_reducible refine (laws_plain.calls kj6 a4 (⟨#[46, 95, 43, 126, 94]⟩ : ByteArray) false _ A25.out).mono ?_); rintro e w' ⟨rfl, ⟨nd, rfl⟩⟩))
                      go_meet
                      case rel => exact ⟨_, (true), (by first | rfl | (simp; done) | (simp [*]; done) | (simp [bne_nil_]; done)), H', ⟨by have := HJ6.out; first | omega | exact Nat.le_refl _⟩, ⟨by repeat (first | (with_reducible first | exact HB.out | apply below_alloc | apply pw_below_drewN | apply below_drew1) | exact HB.out)⟩⟩
                  · replace c24 := Bool.eq_false_iff.mpr c24
                    subst c24
                    have H1 : (laws_FnRedHatJoined.j1 kj6 a0 a1 a2 a3 a4 a5 true) = some r := by rw [if_neg (show ¬ (false = true) by decide)] at H; exact H
                    clear H
                    have H := H1
                    clear H1
                    have H' := Aside0.mk H
                    clear H
                    go_wp2_with (first | ((with_reducible refine gate_dst (N := 50) rfl ?_); (try (refine gate_guard (by rfl) ?_; dsimp only)); refine Kd.R_lit Kd.string _ 9 ?hg (N := 50) ?hd (xs := ([a0, a1, a2, a3, a4, a5] : List ByteArray)) (inner := [.string a0, .string a1, .string a2, .string a3, .string a4, .string a5]) (ok := fun _ => True) (okp := fun _ => True) ?hr ?hp (fun _ hk => hk) trivial (Below.refl _ _) (Nat.le_refl _) (by simp) ?_; (case hd => rfl); (case hg => rfl); (case hr => first | (go_simp; done) | (go_simp; rfl)); (case hp => exact (Reps.one (show Kd.M Kd.string _ _ _ a0 [.string a0] from rfl) (Reps.one (show Kd.M Kd.string _ _ _ a1 [.string a1] from rfl) (Reps.one (show Kd.M Kd.string _ _ _ a2 [.string a2] from rfl) (Reps.one (show Kd.M Kd.string _ _ _ a3 [.string a3] from rfl) (Reps.one (show Kd.M Kd.string _ _ _ a4 [.string a4] from rfl) (Reps.one (show Kd.M Kd.string _ _ _ a5 [.string a5] from rfl) (Reps.none _ _)))))))); intro v146 w34 ho35 hb hg_ hnew_; clear hg_ hnew_; (first | rw [← Ny145.out] at ho35 | (simp only [Int.reduceToNat] at ho35; rw [← Ny145.out] at ho35)); have n0_ := Aside0.mk (Kd.R_lower ho35 (below_size (by repeat (first | (with_reducible first | exact HB.out | apply below_alloc | apply pw_below_drewN | apply below_drew1) | exact HB.out)))); have n1_ := Aside0.mk (below_step (by repeat (first | (with_reducible first | exact HB.out | apply below_alloc | apply pw_below_drewN | apply below_drew1) | exact HB.out)) hb); clear HB; have HO147 := n0_; have HB := n1_; clear n0_ n1_; clear hb ho35; obtain ⟨Ao36, co36, eo36⟩ := Kd.R_slice HO147.out; subst eo36) | ((with_reducible refine gate_callee (f := 7) rfl ?_); refine goesL_ (some 51) rfl rfl Tryd.func7 (by kernel_rfl) rfl #[.slice Ao36 y145.length co36] rfl (by (try simp only [List.map_toArray, List.map_cons, List.map_nil]); first | done | rfl | (simp only [List.length_drop, List.length_take]; rfl)) ?_; (with_reducible refine (laws_short.calls kj6 _ _ y145 true _ ?side1 ?side2 A15.out).mono ?_); (case side1 => repeat (first | exact (Kd.R_reads' HO147.out).2.2 | (with_reducible refine Kd.C_alloc ?_ _) | (with_reducible refine Kd.C_drewN ?_ _) | (with_reducible refine Kd.C_drew ?_))); (case side2 => exact (Kd.R_reads' HO147.out).2.1); rintro e w' ⟨rfl, ⟨nd, rfl⟩⟩; refine ⟨_, rfl, ?_⟩) | (go_at_call 15; (with_reducible refine (laws_digits.calls kj6 a0 true _ A17.out).mono ?_); rintro e w' ⟨rfl, ⟨nd, rfl⟩⟩) | (go_at_call 15; (with_reducible refine (laws_digits.calls kj6 a1 true _ A19.out).mono ?_); rintro e w' ⟨rfl, ⟨nd, rfl⟩⟩) | (go_at_call 8; (with_reducible refine (laws_plain.calls kj6 a2 (⟨#[46, 95, 43, 126, 94]⟩ : ByteArray) true _ A21.out).mono ?_); rintro e w' ⟨rfl, ⟨nd, rfl⟩⟩) | (go_at_call 8; (with_reducible refine (laws_plain.calls kj6 a3 (⟨#[46, 95, 43, 126, 94]⟩ : ByteArray) false _ A23.out).mono ?_); rintro e w' ⟨rfl, ⟨nd, rfl⟩⟩))
                    go_meet
                    case rel => exact ⟨_, (true), (by first | rfl | (simp; done) | (simp [*]; done) | (simp [bne_nil_]; done)), H', ⟨by have := HJ6.out; first | omega | exact Nat.le_refl _⟩, ⟨by repeat (first | (with_reducible first | exact HB.out | apply below_alloc | apply pw_below_drewN | apply below_drew1) | exact HB.out)⟩⟩
                · replace c22 := Bool.eq_false_iff.mpr c22
                  subst c22
                  have H1 : (laws_FnRedHatJoined.j1 kj6 a0 a1 a2 a3 a4 a5 true) = some r := by rw [if_neg (show ¬ (false = true) by decide)] at H; exact H
                  clear H
                  have H := H1
                  clear H1
                  have H' := Aside0.mk H
                  clear H
                  go_wp2_with (first | ((with_reducible refine gate_dst (N := 50) rfl ?_); (try (refine gate_guard (by rfl) ?_; dsimp only)); refine Kd.R_lit Kd.string _ 9 ?hg (N := 50) ?hd (xs := ([a0, a1, a2, a3, a4, a5] : List ByteArray)) (inner := [.string a0, .string a1, .string a2, .string a3, .string a4, .string a5]) (ok := fun _ => True) (okp := fun _ => True) ?hr ?hp (fun _ hk => hk) trivial (Below.refl _ _) (Nat.le_refl _) (by simp) ?_; (case hd => rfl); (case hg => rfl); (case hr => first | (go_simp; done) | (go_simp; rfl)); (case hp => exact (Reps.one (show Kd.M Kd.string _ _ _ a0 [.string a0] from rfl) (Reps.one (show Kd.M Kd.string _ _ _ a1 [.string a1] from rfl) (Reps.one (show Kd.M Kd.string _ _ _ a2 [.string a2] from rfl) (Reps.one (show Kd.M Kd.string _ _ _ a3 [.string a3] from rfl) (Reps.one (show Kd.M Kd.string _ _ _ a4 [.string a4] from rfl) (Reps.one (show Kd.M Kd.string _ _ _ a5 [.string a5] from rfl) (Reps.none _ _)))))))); intro v146 w37 ho38 hb hg_ hnew_; clear hg_ hnew_; (first | rw [← Ny145.out] at ho38 | (simp only [Int.reduceToNat] at ho38; rw [← Ny145.out] at ho38)); have n0_ := Aside0.mk (Kd.R_lower ho38 (below_size (by repeat (first | (with_reducible first | exact HB.out | apply below_alloc | apply pw_below_drewN | apply below_drew1) | exact HB.out)))); have n1_ := Aside0.mk (below_step (by repeat (first | (with_reducible first | exact HB.out | apply below_alloc | apply pw_below_drewN | apply below_drew1) | exact HB.out)) hb); clear HB; have HO147 := n0_; have HB := n1_; clear n0_ n1_; clear hb ho38; obtain ⟨Ao39, co39, eo39⟩ := Kd.R_slice HO147.out; subst eo39) | ((with_reducible refine gate_callee (f := 7) rfl ?_); refine goesL_ (some 51) rfl rfl Tryd.func7 (by kernel_rfl) rfl #[.slice Ao39 y145.length co39] rfl (by (try simp only [List.map_toArray, List.map_cons, List.map_nil]); first | done | rfl | (simp only [List.length_drop, List.length_take]; rfl)) ?_; (with_reducible refine (laws_short.calls kj6 _ _ y145 true _ ?side1 ?side2 A15.out).mono ?_); (case side1 => repeat (first | exact (Kd.R_reads' HO147.out).2.2 | (with_reducible refine Kd.C_alloc ?_ _) | (with_reducible refine Kd.C_drewN ?_ _) | (with_reducible refine Kd.C_drew ?_))); (case side2 => exact (Kd.R_reads' HO147.out).2.1); rintro e w' ⟨rfl, ⟨nd, rfl⟩⟩; refine ⟨_, rfl, ?_⟩) | (go_at_call 15; (with_reducible refine (laws_digits.calls kj6 a0 true _ A17.out).mono ?_); rintro e w' ⟨rfl, ⟨nd, rfl⟩⟩) | (go_at_call 15; (with_reducible refine (laws_digits.calls kj6 a1 true _ A19.out).mono ?_); rintro e w' ⟨rfl, ⟨nd, rfl⟩⟩) | (go_at_call 8; (with_reducible refine (laws_plain.calls kj6 a2 (⟨#[46, 95, 43, 126, 94]⟩ : ByteArray) false _ A21.out).mono ?_); rintro e w' ⟨rfl, ⟨nd, rfl⟩⟩))
                  go_meet
                  case rel => exact ⟨_, (true), (by first | rfl | (simp; done) | (simp [*]; done) | (simp [bne_nil_]; done)), H', ⟨by have := HJ6.out; first | omega | exact Nat.le_refl _⟩, ⟨by repeat (first | (with_reducible first | exact HB.out | apply below_alloc | apply pw_below_drewN | apply below_drew1) | exact HB.out)⟩⟩
              · replace c20 := Bool.eq_false_iff.mpr c20
                subst c20
                have H1 : (laws_FnRedHatJoined.j1 kj6 a0 a1 a2 a3 a4 a5 true) = some r := by rw [if_neg (show ¬ (false = true) by decide)] at H; exact H
                clear H
                have H := H1
                clear H1
                have H' := Aside0.mk H
                clear H
                go_wp2_with (first | ((with_reducible refine gate_dst (N := 50) rfl ?_); (try (refine gate_guard (by rfl) ?_; dsimp only)); refine Kd.R_lit Kd.string _ 9 ?hg (N := 50) ?hd (xs := ([a0, a1, a2, a3, a4, a5] : List ByteArray)) (inner := [.string a0, .string a1, .string a2, .string a3, .string a4, .string a5]) (ok := fun _ => True) (okp := fun _ => True) ?hr ?hp (fun _ hk => hk) trivial (Below.refl _ _) (Nat.le_refl _) (by simp) ?_; (case hd => rfl); (case hg => rfl); (case hr => first | (go_simp; done) | (go_simp; rfl)); (case hp => exact (Reps.one (show Kd.M Kd.string _ _ _ a0 [.string a0] from rfl) (Reps.one (show Kd.M Kd.string _ _ _ a1 [.string a1] from rfl) (Reps.one (show Kd.M Kd.string _ _ _ a2 [.string a2] from rfl) (Reps.one (show Kd.M Kd.string _ _ _ a3 [.string a3] from rfl) (Reps.one (show Kd.M Kd.string _ _ _ a4 [.string a4] from rfl) (Reps.one (show Kd.M Kd.string _ _ _ a5 [.string a5] from rfl) (Reps.none _ _)))))))); intro v146 w40 ho41 hb hg_ hnew_; clear hg_ hnew_; (first | rw [← Ny145.out] at ho41 | (simp only [Int.reduceToNat] at ho41; rw [← Ny145.out] at ho41)); have n0_ := Aside0.mk (Kd.R_lower ho41 (below_size (by repeat (first | (with_reducible first | exact HB.out | apply below_alloc | apply pw_below_drewN | apply below_drew1) | exact HB.out)))); have n1_ := Aside0.mk (below_step (by repeat (first | (with_reducible first | exact HB.out | apply below_alloc | apply pw_below_drewN | apply below_drew1) | exact HB.out)) hb); clear HB; have HO147 := n0_; have HB := n1_; clear n0_ n1_; clear hb ho41; obtain ⟨Ao42, co42, eo42⟩ := Kd.R_slice HO147.out; subst eo42) | ((with_reducible refine gate_callee (f := 7) rfl ?_); refine goesL_ (some 51) rfl rfl Tryd.func7 (by kernel_rfl) rfl #[.slice Ao42 y145.length co42] rfl (by (try simp only [List.map_toArray, List.map_cons, List.map_nil]); first | done | rfl | (simp only [List.length_drop, List.length_take]; rfl)) ?_; (with_reducible refine (laws_short.calls kj6 _ _ y145 true _ ?side1 ?side2 A15.out).mono ?_); (case side1 => repeat (first | exact (Kd.R_reads' HO147.out).2.2 | (with_reducible refine Kd.C_alloc ?_ _) | (with_reducible refine Kd.C_drewN ?_ _) | (with_reducible refine Kd.C_drew ?_))); (case side2 => exact (Kd.R_reads' HO147.out).2.1); rintro e w' ⟨rfl, ⟨nd, rfl⟩⟩; refine ⟨_, rfl, ?_⟩) | (go_at_call 15; (with_reducible refine (laws_digits.calls kj6 a0 true _ A17.out).mono ?_); rintro e w' ⟨rfl, ⟨nd, rfl⟩⟩) | (go_at_call 15; (with_reducible refine (laws_digits.calls kj6 a1 false _ A19.out).mono ?_); rintro e w' ⟨rfl, ⟨nd, rfl⟩⟩))
                go_meet
                case rel => exact ⟨_, (true), (by first | rfl | (simp; done) | (simp [*]; done) | (simp [bne_nil_]; done)), H', ⟨by have := HJ6.out; first | omega | exact Nat.le_refl _⟩, ⟨by repeat (first | (with_reducible first | exact HB.out | apply below_alloc | apply pw_below_drewN | apply below_drew1) | exact HB.out)⟩⟩
            · replace c18 := Bool.eq_false_iff.mpr c18
              subst c18
              have H1 : (laws_FnRedHatJoined.j1 kj6 a0 a1 a2 a3 a4 a5 true) = some r := by rw [if_neg (show ¬ (false = true) by decide)] at H; exact H
              clear H
              have H := H1
              clear H1
              have H' := Aside0.mk H
              clear H
              go_wp2_with (first | ((with_reducible refine gate_dst (N := 50) rfl ?_); (try (refine gate_guard (by rfl) ?_; dsimp only)); refine Kd.R_lit Kd.string _ 9 ?hg (N := 50) ?hd (xs := ([a0, a1, a2, a3, a4, a5] : List ByteArray)) (inner := [.string a0, .string a1, .string a2, .string a3, .string a4, .string a5]) (ok := fun _ => True) (okp := fun _ => True) ?hr ?hp (fun _ hk => hk) trivial (Below.refl _ _) (Nat.le_refl _) (by simp) ?_; (case hd => rfl); (case hg => rfl); (case hr => first | (go_simp; done) | (go_simp; rfl)); (case hp => exact (Reps.one (show Kd.M Kd.string _ _ _ a0 [.string a0] from rfl) (Reps.one (show Kd.M Kd.string _ _ _ a1 [.string a1] from rfl) (Reps.one (show Kd.M Kd.string _ _ _ a2 [.string a2] from rfl) (Reps.one (show Kd.M Kd.string _ _ _ a3 [.string a3] from rfl) (Reps.one (show Kd.M Kd.string _ _ _ a4 [.string a4] from rfl) (Reps.one (show Kd.M Kd.string _ _ _ a5 [.string a5] from rfl) (Reps.none _ _)))))))); intro v146 w43 ho44 hb hg_ hnew_; clear hg_ hnew_; (first | rw [← Ny145.out] at ho44 | (simp only [Int.reduceToNat] at ho44; rw [← Ny145.out] at ho44)); have n0_ := Aside0.mk (Kd.R_lower ho44 (below_size (by repeat (first | (with_reducible first | exact HB.out | apply below_alloc | apply pw_below_drewN | apply below_drew1) | exact HB.out)))); have n1_ := Aside0.mk (below_step (by repeat (first | (with_reducible first | exact HB.out | apply below_alloc | apply pw_below_drewN | apply below_drew1) | exact HB.out)) hb); clear HB; have HO147 := n0_; have HB := n1_; clear n0_ n1_; clear hb ho44; obtain ⟨Ao45, co45, eo45⟩ := Kd.R_slice HO147.out; subst eo45) | ((with_reducible refine gate_callee (f := 7) rfl ?_); refine goesL_ (some 51) rfl rfl Tryd.func7 (by kernel_rfl) rfl #[.slice Ao45 y145.length co45] rfl (by (try simp only [List.map_toArray, List.map_cons, List.map_nil]); first | done | rfl | (simp only [List.length_drop, List.length_take]; rfl)) ?_; (with_reducible refine (laws_short.calls kj6 _ _ y145 true _ ?side1 ?side2 A15.out).mono ?_); (case side1 => repeat (first | exact (Kd.R_reads' HO147.out).2.2 | (with_reducible refine Kd.C_alloc ?_ _) | (with_reducible refine Kd.C_drewN ?_ _) | (with_reducible refine Kd.C_drew ?_))); (case side2 => exact (Kd.R_reads' HO147.out).2.1); rintro e w' ⟨rfl, ⟨nd, rfl⟩⟩; refine ⟨_, rfl, ?_⟩) | (go_at_call 15; (with_reducible refine (laws_digits.calls kj6 a0 false _ A17.out).mono ?_); rintro e w' ⟨rfl, ⟨nd, rfl⟩⟩))
              go_meet
              case rel => exact ⟨_, (true), (by first | rfl | (simp; done) | (simp [*]; done) | (simp [bne_nil_]; done)), H', ⟨by have := HJ6.out; first | omega | exact Nat.le_refl _⟩, ⟨by repeat (first | (with_reducible first | exact HB.out | apply below_alloc | apply pw_below_drewN | apply below_drew1) | exact HB.out)⟩⟩
          · replace c16 := Bool.eq_false_iff.mpr c16
            subst c16
            have H1 : (laws_FnRedHatJoined.j1 kj6 a0 a1 a2 a3 a4 a5 true) = some r := by rw [if_neg (show ¬ (false = true) by decide)] at H; exact H
            clear H
            have H := H1
            clear H1
            have H' := Aside0.mk H
            clear H
            go_wp2_with (first | ((with_reducible refine gate_dst (N := 50) rfl ?_); (try (refine gate_guard (by rfl) ?_; dsimp only)); refine Kd.R_lit Kd.string _ 9 ?hg (N := 50) ?hd (xs := ([a0, a1, a2, a3, a4, a5] : List ByteArray)) (inner := [.string a0, .string a1, .string a2, .string a3, .string a4, .string a5]) (ok := fun _ => True) (okp := fun _ => True) ?hr ?hp (fun _ hk => hk) trivial (Below.refl _ _) (Nat.le_refl _) (by simp) ?_; (case hd => rfl); (case hg => rfl); (case hr => first | (go_simp; done) | (go_simp; rfl)); (case hp => exact (Reps.one (show Kd.M Kd.string _ _ _ a0 [.string a0] from rfl) (Reps.one (show Kd.M Kd.string _ _ _ a1 [.string a1] from rfl) (Reps.one (show Kd.M Kd.string _ _ _ a2 [.string a2] from rfl) (Reps.one (show Kd.M Kd.string _ _ _ a3 [.string a3] from rfl) (Reps.one (show Kd.M Kd.string _ _ _ a4 [.string a4] from rfl) (Reps.one (show Kd.M Kd.string _ _ _ a5 [.string a5] from rfl) (Reps.none _ _)))))))); intro v146 w46 ho47 hb hg_ hnew_; clear hg_ hnew_; (first | rw [← Ny145.out] at ho47 | (simp only [Int.reduceToNat] at ho47; rw [← Ny145.out] at ho47)); have n0_ := Aside0.mk (Kd.R_lower ho47 (below_size (by repeat (first | (with_reducible first | exact HB.out | apply below_alloc | apply pw_below_drewN | apply below_drew1) | exact HB.out)))); have n1_ := Aside0.mk (below_step (by repeat (first | (with_reducible first | exact HB.out | apply below_alloc | apply pw_below_drewN | apply below_drew1) | exact HB.out)) hb); clear HB; have HO147 := n0_; have HB := n1_; clear n0_ n1_; clear hb ho47; obtain ⟨Ao48, co48, eo48⟩ := Kd.R_slice HO147.out; subst eo48) | ((with_reducible refine gate_callee (f := 7) rfl ?_); refine goesL_ (some 51) rfl rfl Tryd.func7 (by kernel_rfl) rfl #[.slice Ao48 y145.length co48] rfl (by (try simp only [List.map_toArray, List.map_cons, List.map_nil]); first | done | rfl | (simp only [List.length_drop, List.length_take]; rfl)) ?_; (with_reducible refine (laws_short.calls kj6 _ _ y145 false _ ?side1 ?side2 A15.out).mono ?_); (case side1 => repeat (first | exact (Kd.R_reads' HO147.out).2.2 | (with_reducible refine Kd.C_alloc ?_ _) | (with_reducible refine Kd.C_drewN ?_ _) | (with_reducible refine Kd.C_drew ?_))); (case side2 => exact (Kd.R_reads' HO147.out).2.1); rintro e w' ⟨rfl, ⟨nd, rfl⟩⟩; refine ⟨_, rfl, ?_⟩))
            go_meet
            case rel => exact ⟨_, (true), (by first | rfl | (simp; done) | (simp [*]; done) | (simp [bne_nil_]; done)), H', ⟨by have := HJ6.out; first | omega | exact Nat.le_refl _⟩, ⟨by repeat (first | (with_reducible first | exact HB.out | apply below_alloc | apply pw_below_drewN | apply below_drew1) | exact HB.out)⟩⟩
        case rest =>
          clear HC14
          try clear c1
          try clear c2
          try clear p2
          try clear c5
          try clear c7
          try clear c8
          try clear c8b0
          try clear c8b1
          try clear c9
          try clear c9b0
          try clear c9b1
          try clear c10
          try clear c10b0
          try clear c10b1
          try clear c11
          try clear c11b0
          try clear c11b1
          try clear c12
          try clear c12b0
          try clear c12b1
          try clear c13
          try clear c16
          try clear c18
          try clear c20
          try clear c22
          try clear c24
          try clear c26
          try clear p2
          obtain ⟨kq, x82_13, rfl, HA, HJ13, HB⟩ := hcut
          cases kq with
          | zero => exact absurd HA.out (by simp [laws_FnRedHatJoined.j1])
          | succ kj13 =>
            have H := HA.out
            clear HA
            simp only [laws_FnRedHatJoined.j1] at H
            by_cases c49 : x82_13 = true
            · subst c49
              have H1 : (some true) = some r := by rw [if_pos rfl] at H; exact H
              clear H
              have H := H1
              clear H1
              obtain rfl := Option.some.inj H
              go_wp2
              go_ret
              exact ⟨by first | rfl | (simp [errW_none, errW_some] <;> rfl) | (simp [*, errW_none, errW_some] <;> rfl) | (simp [bne_nil_]; done), by repeat (first | (with_reducible first | exact HB.out | apply below_alloc | apply pw_below_drewN | apply below_drew1) | exact HB.out)⟩
            · replace c49 := Bool.eq_false_iff.mpr c49
              subst c49
              have H1 : (if a0.size + 1 ≤ 9223372036854775807 then (if (a0 ++ (⟨#[58]⟩ : ByteArray)).size + a2.size ≤ 9223372036854775807 then (if ((a0 ++ (⟨#[58]⟩ : ByteArray)) ++ a2).size + 1 ≤ 9223372036854775807 then (if (((a0 ++ (⟨#[58]⟩ : ByteArray)) ++ a2) ++ (⟨#[45]⟩ : ByteArray)).size + a4.size ≤ 9223372036854775807 then (if a1.size + 1 ≤ 9223372036854775807 then (if (a1 ++ (⟨#[58]⟩ : ByteArray)).size + a3.size ≤ 9223372036854775807 then (if ((a1 ++ (⟨#[58]⟩ : ByteArray)) ++ a3).size + 1 ≤ 9223372036854775807 then (if (((a1 ++ (⟨#[58]⟩ : ByteArray)) ++ a3) ++ (⟨#[45]⟩ : ByteArray)).size + a5.size ≤ 9223372036854775807 then ((Giv.impl_RedHatCompare.f ((((a0 ++ (⟨#[58]⟩ : ByteArray)) ++ a2) ++ (⟨#[45]⟩ : ByteArray)) ++ a4) ((((a1 ++ (⟨#[58]⟩ : ByteArray)) ++ a3) ++ (⟨#[45]⟩ : ByteArray)) ++ a5)).bind fun bt155 => ((impl_RedHatParse.f kj13 ((((a0 ++ (⟨#[58]⟩ : ByteArray)) ++ a2) ++ (⟨#[45]⟩ : ByteArray)) ++ a4)).bind fun bt157 => (if bt155.2 = true then ((impl_RedHatParts.f a0 a1).bind fun t161 => ((impl_RedHatParts.f a2 a3).bind fun t162 => (if 1 + a4.size ≤ 9223372036854775807 then (if 1 + a5.size ≤ 9223372036854775807 then ((impl_RedHatParts.f ((⟨#[45]⟩ : ByteArray) ++ a4) ((⟨#[45]⟩ : ByteArray) ++ a5)).bind fun t163 => ((laws_first.f kj13 (([t161, t162, t163] : List Int))).bind fun t167 => (if bt155.1 = t167 then (some (bt157.2.1.toList == a2.toList)) else (some false)))) else (none)) else (none)))) else (some false)))) else (none)) else (none)) else (none)) else (none)) else (none)) else (none)) else (none)) else (none)) = some r := by rw [if_neg (show ¬ (false = true) by decide)] at H; exact H
              clear H
              have H := H1
              clear H1
              by_cases c50 : a0.size + 1 ≤ 9223372036854775807
              · rw [if_pos c50] at H
                have c50b0 := eq_true c50
                have c50b1 : decide (a0.size + 1 ≤ 9223372036854775807) = true := decide_eq_true c50
                try have c50b2 : (9223372036854775807 < a0.size + 1) = False := eq_false (Nat.not_lt.2 c50)
                by_cases c51 : (a0 ++ (⟨#[58]⟩ : ByteArray)).size + a2.size ≤ 9223372036854775807
                · rw [if_pos c51] at H
                  have c51b0 := eq_true c51
                  have c51b1 : decide ((a0 ++ (⟨#[58]⟩ : ByteArray)).size + a2.size ≤ 9223372036854775807) = true := decide_eq_true c51
                  try have c51b2 : (9223372036854775807 < (a0 ++ (⟨#[58]⟩ : ByteArray)).size + a2.size) = False := eq_false (Nat.not_lt.2 c51)
                  (try (have c51bx : a0.size + 1 + a2.size ≤ 9223372036854775807 := by (have h_ := c51; simp only [ByteArray.size_append] at h_; exact h_)))
                  (try (have c51by := eq_false (Nat.not_lt.2 c51bx)))
                  by_cases c52 : ((a0 ++ (⟨#[58]⟩ : ByteArray)) ++ a2).size + 1 ≤ 9223372036854775807
                  · rw [if_pos c52] at H
                    have c52b0 := eq_true c52
                    have c52b1 : decide (((a0 ++ (⟨#[58]⟩ : ByteArray)) ++ a2).size + 1 ≤ 9223372036854775807) = true := decide_eq_true c52
                    try have c52b2 : (9223372036854775807 < ((a0 ++ (⟨#[58]⟩ : ByteArray)) ++ a2).size + 1) = False := eq_false (Nat.not_lt.2 c52)
                    (try (have c52bx : a0.size + 1 + a2.size + 1 ≤ 9223372036854775807 := by (have h_ := c52; simp only [ByteArray.size_append] at h_; exact h_)))
                    (try (have c52by := eq_false (Nat.not_lt.2 c52bx)))
                    by_cases c53 : (((a0 ++ (⟨#[58]⟩ : ByteArray)) ++ a2) ++ (⟨#[45]⟩ : ByteArray)).size + a4.size ≤ 9223372036854775807
                    · rw [if_pos c53] at H
                      have c53b0 := eq_true c53
                      have c53b1 : decide ((((a0 ++ (⟨#[58]⟩ : ByteArray)) ++ a2) ++ (⟨#[45]⟩ : ByteArray)).size + a4.size ≤ 9223372036854775807) = true := decide_eq_true c53
                      try have c53b2 : (9223372036854775807 < (((a0 ++ (⟨#[58]⟩ : ByteArray)) ++ a2) ++ (⟨#[45]⟩ : ByteArray)).size + a4.size) = False := eq_false (Nat.not_lt.2 c53)
                      (try (have c53bx : a0.size + 1 + a2.size + 1 + a4.size ≤ 9223372036854775807 := by (have h_ := c53; simp only [ByteArray.size_append] at h_; exact h_)))
                      (try (have c53by := eq_false (Nat.not_lt.2 c53bx)))
                      by_cases c54 : a1.size + 1 ≤ 9223372036854775807
                      · rw [if_pos c54] at H
                        have c54b0 := eq_true c54
                        have c54b1 : decide (a1.size + 1 ≤ 9223372036854775807) = true := decide_eq_true c54
                        try have c54b2 : (9223372036854775807 < a1.size + 1) = False := eq_false (Nat.not_lt.2 c54)
                        by_cases c55 : (a1 ++ (⟨#[58]⟩ : ByteArray)).size + a3.size ≤ 9223372036854775807
                        · rw [if_pos c55] at H
                          have c55b0 := eq_true c55
                          have c55b1 : decide ((a1 ++ (⟨#[58]⟩ : ByteArray)).size + a3.size ≤ 9223372036854775807) = true := decide_eq_true c55
                          try have c55b2 : (9223372036854775807 < (a1 ++ (⟨#[58]⟩ : ByteArray)).size + a3.size) = False := eq_false (Nat.not_lt.2 c55)
                          (try (have c55bx : a1.size + 1 + a3.size ≤ 9223372036854775807 := by (have h_ := c55; simp only [ByteArray.size_append] at h_; exact h_)))
                          (try (have c55by := eq_false (Nat.not_lt.2 c55bx)))
                          by_cases c56 : ((a1 ++ (⟨#[58]⟩ : ByteArray)) ++ a3).size + 1 ≤ 9223372036854775807
                          · rw [if_pos c56] at H
                            have c56b0 := eq_true c56
                            have c56b1 : decide (((a1 ++ (⟨#[58]⟩ : ByteArray)) ++ a3).size + 1 ≤ 9223372036854775807) = true := decide_eq_true c56
                            try have c56b2 : (9223372036854775807 < ((a1 ++ (⟨#[58]⟩ : ByteArray)) ++ a3).size + 1) = False := eq_false (Nat.not_lt.2 c56)
                            (try (have c56bx : a1.size + 1 + a3.size + 1 ≤ 9223372036854775807 := by (have h_ := c56; simp only [ByteArray.size_append] at h_; exact h_)))
                            (try (have c56by := eq_false (Nat.not_lt.2 c56bx)))
                            by_cases c57 : (((a1 ++ (⟨#[58]⟩ : ByteArray)) ++ a3) ++ (⟨#[45]⟩ : ByteArray)).size + a5.size ≤ 9223372036854775807
                            · rw [if_pos c57] at H
                              have c57b0 := eq_true c57
                              have c57b1 : decide ((((a1 ++ (⟨#[58]⟩ : ByteArray)) ++ a3) ++ (⟨#[45]⟩ : ByteArray)).size + a5.size ≤ 9223372036854775807) = true := decide_eq_true c57
                              try have c57b2 : (9223372036854775807 < (((a1 ++ (⟨#[58]⟩ : ByteArray)) ++ a3) ++ (⟨#[45]⟩ : ByteArray)).size + a5.size) = False := eq_false (Nat.not_lt.2 c57)
                              (try (have c57bx : a1.size + 1 + a3.size + 1 + a5.size ≤ 9223372036854775807 := by (have h_ := c57; simp only [ByteArray.size_append] at h_; exact h_)))
                              (try (have c57by := eq_false (Nat.not_lt.2 c57bx)))
                              replace H := Option.bind_eq_some_iff.mp H
                              obtain ⟨⟨t155, t156⟩, A580, H⟩ := H
                              replace H : ((impl_RedHatParse.f kj13 ((((a0 ++ (⟨#[58]⟩ : ByteArray)) ++ a2) ++ (⟨#[45]⟩ : ByteArray)) ++ a4)).bind fun bt157 => (if t156 = true then ((impl_RedHatParts.f a0 a1).bind fun t161 => ((impl_RedHatParts.f a2 a3).bind fun t162 => (if 1 + a4.size ≤ 9223372036854775807 then (if 1 + a5.size ≤ 9223372036854775807 then ((impl_RedHatParts.f ((⟨#[45]⟩ : ByteArray) ++ a4) ((⟨#[45]⟩ : ByteArray) ++ a5)).bind fun t163 => ((laws_first.f kj13 (([t161, t162, t163] : List Int))).bind fun t167 => (if t155 = t167 then (some (bt157.2.1.toList == a2.toList)) else (some false)))) else (none)) else (none)))) else (some false))) = some r := H
                              have A58 := Aside0.mk A580
                              clear A580
                              replace H := Option.bind_eq_some_iff.mp H
                              obtain ⟨⟨t157, t158, t159⟩, A590, H⟩ := H
                              replace H : (if t156 = true then ((impl_RedHatParts.f a0 a1).bind fun t161 => ((impl_RedHatParts.f a2 a3).bind fun t162 => (if 1 + a4.size ≤ 9223372036854775807 then (if 1 + a5.size ≤ 9223372036854775807 then ((impl_RedHatParts.f ((⟨#[45]⟩ : ByteArray) ++ a4) ((⟨#[45]⟩ : ByteArray) ++ a5)).bind fun t163 => ((laws_first.f kj13 (([t161, t162, t163] : List Int))).bind fun t167 => (if t155 = t167 then (some (t158.toList == a2.toList)) else (some false)))) else (none)) else (none)))) else (some false)) = some r := H
                              have A59 := Aside0.mk A590
                              clear A590
                              by_cases c60 : t156 = true
                              · subst c60
                                have H1 : ((impl_RedHatParts.f a0 a1).bind fun t161 => ((impl_RedHatParts.f a2 a3).bind fun t162 => (if 1 + a4.size ≤ 9223372036854775807 then (if 1 + a5.size ≤ 9223372036854775807 then ((impl_RedHatParts.f ((⟨#[45]⟩ : ByteArray) ++ a4) ((⟨#[45]⟩ : ByteArray) ++ a5)).bind fun t163 => ((laws_first.f kj13 (([t161, t162, t163] : List Int))).bind fun t167 => (if t155 = t167 then (some (t158.toList == a2.toList)) else (some false)))) else (none)) else (none)))) = some r := by rw [if_pos rfl] at H; exact H
                                clear H
                                have H := H1
                                clear H1
                                replace H := Option.bind_eq_some_iff.mp H
                                obtain ⟨t161, A610, H⟩ := H
                                replace H : ((impl_RedHatParts.f a2 a3).bind fun t162 => (if 1 + a4.size ≤ 9223372036854775807 then (if 1 + a5.size ≤ 9223372036854775807 then ((impl_RedHatParts.f ((⟨#[45]⟩ : ByteArray) ++ a4) ((⟨#[45]⟩ : ByteArray) ++ a5)).bind fun t163 => ((laws_first.f kj13 (([t161, t162, t163] : List Int))).bind fun t167 => (if t155 = t167 then (some (t158.toList == a2.toList)) else (some false)))) else (none)) else (none))) = some r := H
                                have A61 := Aside0.mk A610
                                clear A610
                                replace H := Option.bind_eq_some_iff.mp H
                                obtain ⟨t162, A620, H⟩ := H
                                replace H : (if 1 + a4.size ≤ 9223372036854775807 then (if 1 + a5.size ≤ 9223372036854775807 then ((impl_RedHatParts.f ((⟨#[45]⟩ : ByteArray) ++ a4) ((⟨#[45]⟩ : ByteArray) ++ a5)).bind fun t163 => ((laws_first.f kj13 (([t161, t162, t163] : List Int))).bind fun t167 => (if t155 = t167 then (some (t158.toList == a2.toList)) else (some false)))) else (none)) else (none)) = some r := H
                                have A62 := Aside0.mk A620
                                clear A620
                                by_cases c63 : 1 + a4.size ≤ 9223372036854775807
                                · rw [if_pos c63] at H
                                  have c63b0 := eq_true c63
                                  have c63b1 : decide (1 + a4.size ≤ 9223372036854775807) = true := decide_eq_true c63
                                  try have c63b2 : (9223372036854775807 < 1 + a4.size) = False := eq_false (Nat.not_lt.2 c63)
                                  by_cases c64 : 1 + a5.size ≤ 9223372036854775807
                                  · rw [if_pos c64] at H
                                    have c64b0 := eq_true c64
                                    have c64b1 : decide (1 + a5.size ≤ 9223372036854775807) = true := decide_eq_true c64
                                    try have c64b2 : (9223372036854775807 < 1 + a5.size) = False := eq_false (Nat.not_lt.2 c64)
                                    replace H := Option.bind_eq_some_iff.mp H
                                    obtain ⟨t163, A650, H⟩ := H
                                    replace H : ((laws_first.f kj13 (([t161, t162, t163] : List Int))).bind fun t167 => (if t155 = t167 then (some (t158.toList == a2.toList)) else (some false))) = some r := H
                                    have A65 := Aside0.mk A650
                                    clear A650
                                    obtain ⟨y164, hy164⟩ : ∃ y_ : List Int, y_ = (([t161, t162, t163] : List Int)) := ⟨_, rfl⟩
                                    replace H : ((laws_first.f kj13 y164).bind fun t167 => (if t155 = t167 then (some (t158.toList == a2.toList)) else (some false))) = some r := by first | (rw [hy164]; with_reducible exact H) | (have H2_ := (Option.bind_some _ _).symm.trans H; rw [hy164]; with_reducible exact H2_) | (have H2_ := (Option.bind_some _ _).symm.trans H; with_reducible exact H2_) | with_reducible exact H | (rw [hy164]; exact H) | exact H
                                    have Ny164 := Aside0.mk hy164
                                    clear hy164
                                    replace H := Option.bind_eq_some_iff.mp H
                                    obtain ⟨t167, A660, H⟩ := H
                                    replace H : (if t155 = t167 then (some (t158.toList == a2.toList)) else (some false)) = some r := H
                                    have A66 := Aside0.mk A660
                                    clear A660
                                    by_cases c67 : t155 = t167
                                    · rw [if_pos c67] at H
                                      have c67b0 : (t155 == t167) = true := beq_iff_eq.mpr c67
                                      have c67b1 : (t155 != t167) = false := bne_eq_false_iff_eq.mpr c67
                                      clear c67
                                      obtain rfl := Option.some.inj H
                                      go_wp2_with (first | ((with_reducible refine gate_callee (f := 10) rfl ?_); refine goesL_ (some 98) rfl rfl Tryd.func10 (by kernel_rfl) rfl #[.string ((((a0 ++ (⟨#[58]⟩ : ByteArray)) ++ a2) ++ (⟨#[45]⟩ : ByteArray)) ++ a4), .string ((((a1 ++ (⟨#[58]⟩ : ByteArray)) ++ a3) ++ (⟨#[45]⟩ : ByteArray)) ++ a5)] rfl (by (try simp only [List.map_toArray, List.map_cons, List.map_nil]); first | done | rfl | (simp only [List.length_drop, List.length_take]; rfl)) ?_; (with_reducible refine (Giv.impl_RedHatCompare.calls ((((a0 ++ (⟨#[58]⟩ : ByteArray)) ++ a2) ++ (⟨#[45]⟩ : ByteArray)) ++ a4) ((((a1 ++ (⟨#[58]⟩ : ByteArray)) ++ a3) ++ (⟨#[45]⟩ : ByteArray)) ++ a5) t155 true _ A58.out).mono ?_); rintro e w68 ⟨rfl, hb⟩; refine ⟨_, rfl, ?_⟩; have n0_ := Aside0.mk (below_step (by repeat (first | (with_reducible first | exact HB.out | apply below_alloc | apply pw_below_drewN | apply below_drew1) | exact HB.out)) hb); clear HB; have HB := n0_; clear n0_; (try clear hb); (try clear hb2); (try clear hk); (try clear hi)) | ((with_reducible refine gate_callee (f := 16) rfl ?_); refine goesL_ (some 108) rfl rfl Tryd.func16 (by kernel_rfl) rfl #[.string ((((a0 ++ (⟨#[58]⟩ : ByteArray)) ++ a2) ++ (⟨#[45]⟩ : ByteArray)) ++ a4)] rfl (by (try simp only [List.map_toArray, List.map_cons, List.map_nil]); first | done | rfl | (simp only [List.length_drop, List.length_take]; rfl)) ?_; (with_reducible refine (impl_RedHatParse.calls kj13 ((((a0 ++ (⟨#[58]⟩ : ByteArray)) ++ a2) ++ (⟨#[45]⟩ : ByteArray)) ++ a4) t157 t158 t159 _ A59.out).mono ?_); rintro e w69 ⟨rfl, hb⟩; refine ⟨_, rfl, ?_⟩; have n0_ := Aside0.mk (below_step (by repeat (first | (with_reducible first | exact HB.out | apply below_alloc | apply pw_below_drewN | apply below_drew1) | exact HB.out)) hb); clear HB; have HB := n0_; clear n0_; (try clear hb); (try clear hb2); (try clear hk); (try clear hi)) | ((with_reducible refine gate_dst (N := 15) rfl ?_); (try (refine gate_guard (by rfl) ?_; dsimp only)); refine box_event ?hg (N := 15) ?hd (cs := #[.string (⟨#[]⟩ : ByteArray), .string (⟨#[]⟩ : ByteArray), .string (⟨#[]⟩ : ByteArray)]) (t := 34) ?hr ?_; (case hd => rfl); (case hg => rfl); (case hr => first | (go_simp; done) | (go_simp; rfl)); intro gb160 hg w70 hbox hb; have n0_ := Aside0.mk (below_step (by repeat (first | (with_reducible first | exact HB.out | apply below_alloc | apply pw_below_drewN | apply below_drew1) | exact HB.out)) hb); have n1_ := Aside0.mk (hbox); have n2_ := Aside0.mk ((by rw [hg]; exact (below_size (by repeat (first | (with_reducible first | exact HB.out | apply below_alloc | apply pw_below_drewN | apply below_drew1) | exact HB.out))) : w.heap.size ≤ gb160)); have n3_ := Aside0.mk ((by rw [hg]; exact (below_size (by repeat (first | (with_reducible first | exact HB.out | apply below_alloc | apply pw_below_drewN | apply below_drew1) | exact HB.out))) : w.heap.size ≤ gb160)); clear HB; have HB := n0_; have BK160 := n1_; have GW160 := n2_; have GE160 := n3_; clear n0_ n1_ n2_ n3_; clear hb hbox hg; have hcz71_0 : w70.cell? ⟨gb160, 0, none⟩ = some (.string (⟨#[]⟩ : ByteArray)) := (blk_cell BK160.out 0).trans rfl; have hcz71_1 : w70.cell? ⟨gb160, 1, none⟩ = some (.string (⟨#[]⟩ : ByteArray)) := (blk_cell BK160.out 1).trans rfl; have hcz71_2 : w70.cell? ⟨gb160, 2, none⟩ = some (.string (⟨#[]⟩ : ByteArray)) := (blk_cell BK160.out 2).trans rfl; have hfz71_0 := blk_frozen BK160.out 0; have hfz71_1 := blk_frozen BK160.out 1; have hfz71_2 := blk_frozen BK160.out 2) | (go_at_call 13; (with_reducible refine (impl_RedHatParts.calls a0 a1 t161 _ A61.out).mono ?_); rintro e w72 ⟨rfl, hb⟩; have n0_ := Aside0.mk (blk_below (g := gb160) (o := .cells #[.string t157, .string t158, .string t159] 34 (0, 0)) (by (with_reducible repeat (first | refine blk_drewN ?_ _ | refine blk_drew ?_ | refine blk_alloc ?_ _)); refine blk_put (cs := #[.string t157, .string t158, .string (⟨#[]⟩ : ByteArray)]) ?_ 2 _ rfl; (with_reducible repeat (first | refine blk_drewN ?_ _ | refine blk_drew ?_ | refine blk_alloc ?_ _)); refine blk_put (cs := #[.string t157, .string (⟨#[]⟩ : ByteArray), .string (⟨#[]⟩ : ByteArray)]) ?_ 1 _ rfl; (with_reducible repeat (first | refine blk_drewN ?_ _ | refine blk_drew ?_ | refine blk_alloc ?_ _)); refine blk_put (cs := #[.string (⟨#[]⟩ : ByteArray), .string (⟨#[]⟩ : ByteArray), .string (⟨#[]⟩ : ByteArray)]) ?_ 0 _ rfl; (with_reducible repeat (first | refine blk_drewN ?_ _ | refine blk_drew ?_ | refine blk_alloc ?_ _)); exact BK160.out) hb); have n1_ := Aside0.mk (below_step (by repeat (first | (with_reducible first | exact HB.out | apply below_alloc | apply pw_below_drewN | apply below_drew1 | refine below_set ?_ GE160.out) | exact HB.out)) hb); clear BK160; clear HB; have BK160 := n0_; have HB := n1_; clear n0_ n1_; (try clear hb); (try clear hb2); (try clear hk); (try clear hi)) | (go_at_call 13; (with_reducible refine (impl_RedHatParts.calls a2 a3 t162 _ A62.out).mono ?_); rintro e w73 ⟨rfl, hb⟩; have n0_ := Aside0.mk (blk_below (g := gb160) (o := .cells #[.string t157, .string t158, .string t159] 34 (0, 0)) (by (with_reducible repeat (first | refine blk_drewN ?_ _ | refine blk_drew ?_ | refine blk_alloc ?_ _)); exact BK160.out) hb); have n1_ := Aside0.mk (below_step (by repeat (first | (with_reducible first | exact HB.out | apply below_alloc | apply pw_below_drewN | apply below_drew1 | refine below_set ?_ GE160.out) | exact HB.out)) hb); clear BK160; clear HB; have BK160 := n0_; have HB := n1_; clear n0_ n1_; (try clear hb); (try clear hb2); (try clear hk); (try clear hi)) | (go_at_call 13; (with_reducible refine (impl_RedHatParts.calls ((⟨#[45]⟩ : ByteArray) ++ a4) ((⟨#[45]⟩ : ByteArray) ++ a5) t163 _ A65.out).mono ?_); rintro e w74 ⟨rfl, hb⟩; have n0_ := Aside0.mk (blk_below (g := gb160) (o := .cells #[.string t157, .string t158, .string t159] 34 (0, 0)) (by (with_reducible repeat (first | refine blk_drewN ?_ _ | refine blk_drew ?_ | refine blk_alloc ?_ _)); exact BK160.out) hb); have n1_ := Aside0.mk (below_step (by repeat (first | (with_reducible first | exact HB.out | apply below_alloc | apply pw_below_drewN | apply below_drew1 | refine below_set ?_ GE160.out) | exact HB.out)) hb); clear BK160; clear HB; have BK160 := n0_; have HB := n1_; clear n0_ n1_; (try clear hb); (try clear hb2); (try clear hk); (try clear hi)) | ((with_reducible refine gate_dst (N := 123) rfl ?_); (try (refine gate_guard (by rfl) ?_; dsimp only)); refine Kd.R_lit (Kd.int .i64) _ 3 ?hg (N := 123) ?hd (xs := ([t161, t162, t163] : List Int)) (inner := [.int .i64 t161, .int .i64 t162, .int .i64 t163]) (ok := fun _ => True) (okp := fun _ => True) ?hr ?hp (fun _ hk => hk) trivial (Below.refl _ _) (Nat.le_refl _) (by simp) ?_; (case hd => rfl); (case hg => rfl); (case hr => first | (go_simp; done) | (go_simp; rfl)); (case hp => exact (Reps.one (show Kd.M (Kd.int .i64) _ _ _ t161 [.int .i64 t161] from rfl) (Reps.one (show Kd.M (Kd.int .i64) _ _ _ t162 [.int .i64 t162] from rfl) (Reps.one (show Kd.M (Kd.int .i64) _ _ _ t163 [.int .i64 t163] from rfl) (Reps.none _ _))))); intro v165 w75 ho76 hb hg_ hnew_; clear hg_ hnew_; (first | rw [← Ny164.out] at ho76 | (simp only [Int.reduceToNat] at ho76; rw [← Ny164.out] at ho76)); have n0_ := Aside0.mk (Kd.R_lower ho76 (below_size (by repeat (first | (with_reducible first | exact HB.out | apply below_alloc | apply pw_below_drewN | apply below_drew1 | refine below_set ?_ GE160.out) | exact HB.out)))); have n1_ := Aside0.mk (blk_below (g := gb160) (o := .cells #[.string t157, .string t158, .string t159] 34 (0, 0)) (by (with_reducible repeat (first | refine blk_drewN ?_ _ | refine blk_drew ?_ | refine blk_alloc ?_ _)); exact BK160.out) hb); have n2_ := Aside0.mk (below_step (by repeat (first | (with_reducible first | exact HB.out | apply below_alloc | apply pw_below_drewN | apply below_drew1 | refine below_set ?_ GE160.out) | exact HB.out)) hb); clear BK160; clear HB; have HO166 := n0_; have BK160 := n1_; have HB := n2_; clear n0_ n1_ n2_; clear hb ho76; obtain ⟨Ao77, co77, eo77⟩ := Kd.R_slice HO166.out; subst eo77) | (go_at_call 17; (with_reducible refine (laws_first.calls kj13 _ _ y164 t167 _ ?side1 ?side2 A66.out).mono ?_); (case side1 => repeat (first | exact (Kd.R_reads' HO166.out).2.2 | (with_reducible refine Kd.C_alloc ?_ _) | (with_reducible refine Kd.C_drewN ?_ _) | (with_reducible refine Kd.C_drew ?_))); (case side2 => exact (Kd.R_reads' HO166.out).2.1); rintro e w' ⟨rfl, ⟨nd, rfl⟩⟩; have hcz78_0 : w75.cell? ⟨gb160, 0, none⟩ = some (.string t157) := (blk_cell BK160.out 0).trans rfl; have hcz78_1 : w75.cell? ⟨gb160, 1, none⟩ = some (.string t158) := (blk_cell BK160.out 1).trans rfl; have hcz78_2 : w75.cell? ⟨gb160, 2, none⟩ = some (.string t159) := (blk_cell BK160.out 2).trans rfl; have hfz78_0 := blk_frozen BK160.out 0; have hfz78_1 := blk_frozen BK160.out 1; have hfz78_2 := blk_frozen BK160.out 2))
                                      go_ret
                                      exact ⟨by first | rfl | (simp [errW_none, errW_some] <;> rfl) | (simp [*, errW_none, errW_some] <;> rfl) | (simp [bne_nil_]; done), by repeat (first | (with_reducible first | exact HB.out | apply below_alloc | apply pw_below_drewN | apply below_drew1 | refine below_set ?_ GE160.out) | exact HB.out)⟩
                                    · rw [if_neg c67] at H
                                      have c67b0 : (t155 == t167) = false := beq_eq_false_iff_ne.mpr c67
                                      have c67b1 : (t155 != t167) = true := bne_iff_ne.mpr c67
                                      obtain rfl := Option.some.inj H
                                      go_wp2_with (first | ((with_reducible refine gate_callee (f := 10) rfl ?_); refine goesL_ (some 98) rfl rfl Tryd.func10 (by kernel_rfl) rfl #[.string ((((a0 ++ (⟨#[58]⟩ : ByteArray)) ++ a2) ++ (⟨#[45]⟩ : ByteArray)) ++ a4), .string ((((a1 ++ (⟨#[58]⟩ : ByteArray)) ++ a3) ++ (⟨#[45]⟩ : ByteArray)) ++ a5)] rfl (by (try simp only [List.map_toArray, List.map_cons, List.map_nil]); first | done | rfl | (simp only [List.length_drop, List.length_take]; rfl)) ?_; (with_reducible refine (Giv.impl_RedHatCompare.calls ((((a0 ++ (⟨#[58]⟩ : ByteArray)) ++ a2) ++ (⟨#[45]⟩ : ByteArray)) ++ a4) ((((a1 ++ (⟨#[58]⟩ : ByteArray)) ++ a3) ++ (⟨#[45]⟩ : ByteArray)) ++ a5) t155 true _ A58.out).mono ?_); rintro e w79 ⟨rfl, hb⟩; refine ⟨_, rfl, ?_⟩; have n0_ := Aside0.mk (below_step (by repeat (first | (with_reducible first | exact HB.out | apply below_alloc | apply pw_below_drewN | apply below_drew1) | exact HB.out)) hb); clear HB; have HB := n0_; clear n0_; (try clear hb); (try clear hb2); (try clear hk); (try clear hi)) | ((with_reducible refine gate_callee (f := 16) rfl ?_); refine goesL_ (some 108) rfl rfl Tryd.func16 (by kernel_rfl) rfl #[.string ((((a0 ++ (⟨#[58]⟩ : ByteArray)) ++ a2) ++ (⟨#[45]⟩ : ByteArray)) ++ a4)] rfl (by (try simp only [List.map_toArray, List.map_cons, List.map_nil]); first | done | rfl | (simp only [List.length_drop, List.length_take]; rfl)) ?_; (with_reducible refine (impl_RedHatParse.calls kj13 ((((a0 ++ (⟨#[58]⟩ : ByteArray)) ++ a2) ++ (⟨#[45]⟩ : ByteArray)) ++ a4) t157 t158 t159 _ A59.out).mono ?_); rintro e w80 ⟨rfl, hb⟩; refine ⟨_, rfl, ?_⟩; have n0_ := Aside0.mk (below_step (by repeat (first | (with_reducible first | exact HB.out | apply below_alloc | apply pw_below_drewN | apply below_drew1) | exact HB.out)) hb); clear HB; have HB := n0_; clear n0_; (try clear hb); (try clear hb2); (try clear hk); (try clear hi)) | ((with_reducible refine gate_dst (N := 15) rfl ?_); (try (refine gate_guard (by rfl) ?_; dsimp only)); refine box_event ?hg (N := 15) ?hd (cs := #[.string (⟨#[]⟩ : ByteArray), .string (⟨#[]⟩ : ByteArray), .string (⟨#[]⟩ : ByteArray)]) (t := 34) ?hr ?_; (case hd => rfl); (case hg => rfl); (case hr => first | (go_simp; done) | (go_simp; rfl)); intro gb160 hg w81 hbox hb; have n0_ := Aside0.mk (below_step (by repeat (first | (with_reducible first | exact HB.out | apply below_alloc | apply pw_below_drewN | apply below_drew1) | exact HB.out)) hb); have n1_ := Aside0.mk (hbox); have n2_ := Aside0.mk ((by rw [hg]; exact (below_size (by repeat (first | (with_reducible first | exact HB.out | apply below_alloc | apply pw_below_drewN | apply below_drew1) | exact HB.out))) : w.heap.size ≤ gb160)); have n3_ := Aside0.mk ((by rw [hg]; exact (below_size (by repeat (first | (with_reducible first | exact HB.out | apply below_alloc | apply pw_below_drewN | apply below_drew1) | exact HB.out))) : w.heap.size ≤ gb160)); clear HB; have HB := n0_; have BK160 := n1_; have GW160 := n2_; have GE160 := n3_; clear n0_ n1_ n2_ n3_; clear hb hbox hg; have hcz82_0 : w81.cell? ⟨gb160, 0, none⟩ = some (.string (⟨#[]⟩ : ByteArray)) := (blk_cell BK160.out 0).trans rfl; have hcz82_1 : w81.cell? ⟨gb160, 1, none⟩ = some (.string (⟨#[]⟩ : ByteArray)) := (blk_cell BK160.out 1).trans rfl; have hcz82_2 : w81.cell? ⟨gb160, 2, none⟩ = some (.string (⟨#[]⟩ : ByteArray)) := (blk_cell BK160.out 2).trans rfl; have hfz82_0 := blk_frozen BK160.out 0; have hfz82_1 := blk_frozen BK160.out 1; have hfz82_2 := blk_frozen BK160.out 2) | (go_at_call 13; (with_reducible refine (impl_RedHatParts.calls a0 a1 t161 _ A61.out).mono ?_); rintro e w83 ⟨rfl, hb⟩; have n0_ := Aside0.mk (blk_below (g := gb160) (o := .cells #[.string t157, .string t158, .string t159] 34 (0, 0)) (by (with_reducible repeat (first | refine blk_drewN ?_ _ | refine blk_drew ?_ | refine blk_alloc ?_ _)); refine blk_put (cs := #[.string t157, .string t158, .string (⟨#[]⟩ : ByteArray)]) ?_ 2 _ rfl; (with_reducible repeat (first | refine blk_drewN ?_ _ | refine blk_drew ?_ | refine blk_alloc ?_ _)); refine blk_put (cs := #[.string t157, .string (⟨#[]⟩ : ByteArray), .string (⟨#[]⟩ : ByteArray)]) ?_ 1 _ rfl; (with_reducible repeat (first | refine blk_drewN ?_ _ | refine blk_drew ?_ | refine blk_alloc ?_ _)); refine blk_put (cs := #[.string (⟨#[]⟩ : ByteArray), .string (⟨#[]⟩ : ByteArray), .string (⟨#[]⟩ : ByteArray)]) ?_ 0 _ rfl; (with_reducible repeat (first | refine blk_drewN ?_ _ | refine blk_drew ?_ | refine blk_alloc ?_ _)); exact BK160.out) hb); have n1_ := Aside0.mk (below_step (by repeat (first | (with_reducible first | exact HB.out | apply below_alloc | apply pw_below_drewN | apply below_drew1 | refine below_set ?_ GE160.out) | exact HB.out)) hb); clear BK160; clear HB; have BK160 := n0_; have HB := n1_; clear n0_ n1_; (try clear hb); (try clear hb2); (try clear hk); (try clear hi)) | (go_at_call 13; (with_reducible refine (impl_RedHatParts.calls a2 a3 t162 _ A62.out).mono ?_); rintro e w84 ⟨rfl, hb⟩; have n0_ := Aside0.mk (blk_below (g := gb160) (o := .cells #[.string t157, .string t158, .string t159] 34 (0, 0)) (by (with_reducible repeat (first | refine blk_drewN ?_ _ | refine blk_drew ?_ | refine blk_alloc ?_ _)); exact BK160.out) hb); have n1_ := Aside0.mk (below_step (by repeat (first | (with_reducible first | exact HB.out | apply below_alloc | apply pw_below_drewN | apply below_drew1 | refine below_set ?_ GE160.out) | exact HB.out)) hb); clear BK160; clear HB; have BK160 := n0_; have HB := n1_; clear n0_ n1_; (try clear hb); (try clear hb2); (try clear hk); (try clear hi)) | (go_at_call 13; (with_reducible refine (impl_RedHatParts.calls ((⟨#[45]⟩ : ByteArray) ++ a4) ((⟨#[45]⟩ : ByteArray) ++ a5) t163 _ A65.out).mono ?_); rintro e w85 ⟨rfl, hb⟩; have n0_ := Aside0.mk (blk_below (g := gb160) (o := .cells #[.string t157, .string t158, .string t159] 34 (0, 0)) (by (with_reducible repeat (first | refine blk_drewN ?_ _ | refine blk_drew ?_ | refine blk_alloc ?_ _)); exact BK160.out) hb); have n1_ := Aside0.mk (below_step (by repeat (first | (with_reducible first | exact HB.out | apply below_alloc | apply pw_below_drewN | apply below_drew1 | refine below_set ?_ GE160.out) | exact HB.out)) hb); clear BK160; clear HB; have BK160 := n0_; have HB := n1_; clear n0_ n1_; (try clear hb); (try clear hb2); (try clear hk); (try clear hi)) | ((with_reducible refine gate_dst (N := 123) rfl ?_); (try (refine gate_guard (by rfl) ?_; dsimp only)); refine Kd.R_lit (Kd.int .i64) _ 3 ?hg (N := 123) ?hd (xs := ([t161, t162, t163] : List Int)) (inner := [.int .i64 t161, .int .i64 t162, .int .i64 t163]) (ok := fun _ => True) (okp := fun _ => True) ?hr ?hp (fun _ hk => hk) trivial (Below.refl _ _) (Nat.le_refl _) (by simp) ?_; (case hd => rfl); (case hg => rfl); (case hr => first | (go_simp; done) | (go_simp; rfl)); (case hp => exact (Reps.one (show Kd.M (Kd.int .i64) _ _ _ t161 [.int .i64 t161] from rfl) (Reps.one (show Kd.M (Kd.int .i64) _ _ _ t162 [.int .i64 t162] from rfl) (Reps.one (show Kd.M (Kd.int .i64) _ _ _ t163 [.int .i64 t163] from rfl) (Reps.none _ _))))); intro v165 w86 ho87 hb hg_ hnew_; clear hg_ hnew_; (first | rw [← Ny164.out] at ho87 | (simp only [Int.reduceToNat] at ho87; rw [← Ny164.out] at ho87)); have n0_ := Aside0.mk (Kd.R_lower ho87 (below_size (by repeat (first | (with_reducible first | exact HB.out | apply below_alloc | apply pw_below_drewN | apply below_drew1 | refine below_set ?_ GE160.out) | exact HB.out)))); have n1_ := Aside0.mk (blk_below (g := gb160) (o := .cells #[.string t157, .string t158, .string t159] 34 (0, 0)) (by (with_reducible repeat (first | refine blk_drewN ?_ _ | refine blk_drew ?_ | refine blk_alloc ?_ _)); exact BK160.out) hb); have n2_ := Aside0.mk (below_step (by repeat (first | (with_reducible first | exact HB.out | apply below_alloc | apply pw_below_drewN | apply below_drew1 | refine below_set ?_ GE160.out) | exact HB.out)) hb); clear BK160; clear HB; have HO166 := n0_; have BK160 := n1_; have HB := n2_; clear n0_ n1_ n2_; clear hb ho87; obtain ⟨Ao88, co88, eo88⟩ := Kd.R_slice HO166.out; subst eo88) | (go_at_call 17; (with_reducible refine (laws_first.calls kj13 _ _ y164 t167 _ ?side1 ?side2 A66.out).mono ?_); (case side1 => repeat (first | exact (Kd.R_reads' HO166.out).2.2 | (with_reducible refine Kd.C_alloc ?_ _) | (with_reducible refine Kd.C_drewN ?_ _) | (with_reducible refine Kd.C_drew ?_))); (case side2 => exact (Kd.R_reads' HO166.out).2.1); rintro e w' ⟨rfl, ⟨nd, rfl⟩⟩))
                                      go_ret
                                      exact ⟨by first | rfl | (simp [errW_none, errW_some] <;> rfl) | (simp [*, errW_none, errW_some] <;> rfl) | (simp [bne_nil_]; done), by repeat (first | (with_reducible first | exact HB.out | apply below_alloc | apply pw_below_drewN | apply below_drew1 | refine below_set ?_ GE160.out) | exact HB.out)⟩
                                  · rw [if_neg c64] at H
                                    exact absurd H (by simp)
                                · rw [if_neg c63] at H
                                  exact absurd H (by simp)
                              · replace c60 := Bool.eq_false_iff.mpr c60
                                subst c60
                                have H1 : (some false) = some r := by rw [if_neg (show ¬ (false = true) by decide)] at H; exact H
                                clear H
                                have H := H1
                                clear H1
                                obtain rfl := Option.some.inj H
                                go_wp2_with (first | ((with_reducible refine gate_callee (f := 10) rfl ?_); refine goesL_ (some 98) rfl rfl Tryd.func10 (by kernel_rfl) rfl #[.string ((((a0 ++ (⟨#[58]⟩ : ByteArray)) ++ a2) ++ (⟨#[45]⟩ : ByteArray)) ++ a4), .string ((((a1 ++ (⟨#[58]⟩ : ByteArray)) ++ a3) ++ (⟨#[45]⟩ : ByteArray)) ++ a5)] rfl (by (try simp only [List.map_toArray, List.map_cons, List.map_nil]); first | done | rfl | (simp only [List.length_drop, List.length_take]; rfl)) ?_; (with_reducible refine (Giv.impl_RedHatCompare.calls ((((a0 ++ (⟨#[58]⟩ : ByteArray)) ++ a2) ++ (⟨#[45]⟩ : ByteArray)) ++ a4) ((((a1 ++ (⟨#[58]⟩ : ByteArray)) ++ a3) ++ (⟨#[45]⟩ : ByteArray)) ++ a5) t155 false _ A58.out).mono ?_); rintro e w89 ⟨rfl, hb⟩; refine ⟨_, rfl, ?_⟩; have n0_ := Aside0.mk (below_step (by repeat (first | (with_reducible first | exact HB.out | apply below_alloc | apply pw_below_drewN | apply below_drew1) | exact HB.out)) hb); clear HB; have HB := n0_; clear n0_; (try clear hb); (try clear hb2); (try clear hk); (try clear hi)) | ((with_reducible refine gate_callee (f := 16) rfl ?_); refine goesL_ (some 108) rfl rfl Tryd.func16 (by kernel_rfl) rfl #[.string ((((a0 ++ (⟨#[58]⟩ : ByteArray)) ++ a2) ++ (⟨#[45]⟩ : ByteArray)) ++ a4)] rfl (by (try simp only [List.map_toArray, List.map_cons, List.map_nil]); first | done | rfl | (simp only [List.length_drop, List.length_take]; rfl)) ?_; (with_reducible refine (impl_RedHatParse.calls kj13 ((((a0 ++ (⟨#[58]⟩ : ByteArray)) ++ a2) ++ (⟨#[45]⟩ : ByteArray)) ++ a4) t157 t158 t159 _ A59.out).mono ?_); rintro e w90 ⟨rfl, hb⟩; refine ⟨_, rfl, ?_⟩; have n0_ := Aside0.mk (below_step (by repeat (first | (with_reducible first | exact HB.out | apply below_alloc | apply pw_below_drewN | apply below_drew1) | exact HB.out)) hb); clear HB; have HB := n0_; clear n0_; (try clear hb); (try clear hb2); (try clear hk); (try clear hi)) | ((with_reducible refine gate_dst (N := 15) rfl ?_); (try (refine gate_guard (by rfl) ?_; dsimp only)); refine box_event ?hg (N := 15) ?hd (cs := #[.string (⟨#[]⟩ : ByteArray), .string (⟨#[]⟩ : ByteArray), .string (⟨#[]⟩ : ByteArray)]) (t := 34) ?hr ?_; (case hd => rfl); (case hg => rfl); (case hr => first | (go_simp; done) | (go_simp; rfl)); intro gb160 hg w91 hbox hb; have n0_ := Aside0.mk (below_step (by repeat (first | (with_reducible first | exact HB.out | apply below_alloc | apply pw_below_drewN | apply below_drew1) | exact HB.out)) hb); have n1_ := Aside0.mk (hbox); have n2_ := Aside0.mk ((by rw [hg]; exact (below_size (by repeat (first | (with_reducible first | exact HB.out | apply below_alloc | apply pw_below_drewN | apply below_drew1) | exact HB.out))) : w.heap.size ≤ gb160)); have n3_ := Aside0.mk ((by rw [hg]; exact (below_size (by repeat (first | (with_reducible first | exact HB.out | apply below_alloc | apply pw_below_drewN | apply below_drew1) | exact HB.out))) : w.heap.size ≤ gb160)); clear HB; have HB := n0_; have BK160 := n1_; have GW160 := n2_; have GE160 := n3_; clear n0_ n1_ n2_ n3_; clear hb hbox hg; have hcz92_0 : w91.cell? ⟨gb160, 0, none⟩ = some (.string (⟨#[]⟩ : ByteArray)) := (blk_cell BK160.out 0).trans rfl; have hcz92_1 : w91.cell? ⟨gb160, 1, none⟩ = some (.string (⟨#[]⟩ : ByteArray)) := (blk_cell BK160.out 1).trans rfl; have hcz92_2 : w91.cell? ⟨gb160, 2, none⟩ = some (.string (⟨#[]⟩ : ByteArray)) := (blk_cell BK160.out 2).trans rfl; have hfz92_0 := blk_frozen BK160.out 0; have hfz92_1 := blk_frozen BK160.out 1; have hfz92_2 := blk_frozen BK160.out 2))
                                go_ret
                                exact ⟨by first | rfl | (simp [errW_none, errW_some] <;> rfl) | (simp [*, errW_none, errW_some] <;> rfl) | (simp [bne_nil_]; done), by repeat (first | (with_reducible first | exact HB.out | apply below_alloc | apply pw_below_drewN | apply below_drew1 | refine below_set ?_ GE160.out) | exact HB.out)⟩
                            · rw [if_neg c57] at H
                              exact absurd H (by simp)
                          · rw [if_neg c56] at H
                            exact absurd H (by simp)
                        · rw [if_neg c55] at H
                          exact absurd H (by simp)
                      · rw [if_neg c54] at H
                        exact absurd H (by simp)
                    · rw [if_neg c53] at H
                      exact absurd H (by simp)
                  · rw [if_neg c52] at H
                    exact absurd H (by simp)
                · rw [if_neg c51] at H
                  exact absurd H (by simp)
              · rw [if_neg c50] at H
                exact absurd H (by simp)

/-- THE ONE PURE STATEMENT of laws_FnRedHatJoined: yours. -/
def laws_FnRedHatJoined.Pure : Prop := ∀ (a0 : ByteArray) (a1 : ByteArray) (a2 : ByteArray) (a3 : ByteArray) (a4 : ByteArray) (a5 : ByteArray), a0.size ≤ 140737488351232 → a1.size ≤ 140737488351232 → a2.size ≤ 140737488351232 → a3.size ≤ 140737488351232 → a4.size ≤ 140737488351232 → a5.size ≤ 140737488351232 → ∃ k, laws_FnRedHatJoined.f k a0 a1 a2 a3 a4 a5 = some true
theorem laws_FnRedHatJoined.walk (P : laws_FnRedHatJoined.Pure) (a0 : ByteArray) (a1 : ByteArray) (a2 : ByteArray) (a3 : ByteArray) (a4 : ByteArray) (a5 : ByteArray) (w : World) (w0 : a0.size ≤ 140737488351232) (w1 : a1.size ≤ 140737488351232) (w2 : a2.size ≤ 140737488351232) (w3 : a3.size ≤ 140737488351232) (w4 : a4.size ≤ 140737488351232) (w5 : a5.size ≤ 140737488351232) :
    Calls Tryd.prog 5 #[.string a0, .string a1, .string a2, .string a3, .string a4, .string a5] w fun e w' => e = .returned (.bool true) ∧ Below w.heap.size w w' := by
  obtain ⟨k, h⟩ := P a0 a1 a2 a3 a4 a5 w0 w1 w2 w3 w4 w5
  refine (laws_FnRedHatJoined.calls k a0 a1 a2 a3 a4 a5 true w h).mono ?_
  rintro e w' ⟨rfl, hd⟩
  exact ⟨rfl, hd⟩

end Go.Proofs.YtojabknjniihmabDoor.QE
