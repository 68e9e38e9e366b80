-- Written by a working copy of the kit's print program, turned at a few places by wip/tool/mkprint.py. Lean checks it.
import Derived.Test.YtfgechefinijbaaDoorQGx0
import Derived.Test.YtfgechefinijbaaDoorQGx1
import Derived.Test.YtfgechefinijbaaDoorQGx2
import Derived.Test.YtfgechefinijbaaDoorQGx3
namespace Go.Proofs.YtfgechefinijbaaDoor.QG
open Go.RowKit Go.Proofs.YtfgechefinijbaaDoorW.PrintWords Go.Proofs.YtfgechefinijbaaDoorW.PrintLast Go.Proofs.YtfgechefinijbaaDoorW.PrintMore
attribute [local go_sem] max2_int min2_int max_two min_two max_three min_three max_four min_four   -- for this text's walks alone
set_option linter.unusedVariables false
set_option linter.unusedSimpArgs false

/-! ### spec_gemRuns: function 60 -/
mutual
def spec_gemRuns.l0 : Nat → ByteArray → List ByteArray → Int → Option (List ByteArray)
  | 0, _, _, _ => none
  | k + 1, x0, x3, x4 => if x4 < (x0.size : Int) then (spec_gemRuns.l1 k x0 x3 x4 (wrap64 (x4 + 1))) else (some x3)
def spec_gemRuns.l1 : Nat → ByteArray → List ByteArray → Int → Int → Option (List ByteArray)
  | 0, _, _, _, _ => none
  | k + 1, x0, x3, x4, x5 => if x5 < (x0.size : Int) then (if 0 ≤ x4 then (if x4 < (x0.size : Int) then (if (bt x0 x4) = 46 then (spec_gemRuns.l0 k x0 x3 x5) else (if 0 ≤ x5 then (if (bt x0 x5) = 46 then (if x4 ≤ x5 then (if x5 ≤ (x0.size : Int) then (if x3.length < 8796093022208 then (spec_gemRuns.l0 k x0 (x3 ++ [x0.extract (x4 : Int).toNat (x5 : Int).toNat]) x5) else (none)) else (none)) else (none)) else ((spec_isDigit.f (bt x0 x5)).bind fun t299 => ((spec_isDigit.f (bt x0 x4)).bind fun t300 => (if (t299 == t300) = true then (spec_gemRuns.l1 k x0 x3 x4 (wrap64 (x5 + 1))) else (if x4 ≤ x5 then (if x5 ≤ (x0.size : Int) then (if x3.length < 8796093022208 then (spec_gemRuns.l0 k x0 (x3 ++ [x0.extract (x4 : Int).toNat (x5 : Int).toNat]) x5) else (none)) else (none)) else (none)))))) else (none))) else (none)) else (none)) else (if 0 ≤ x4 then (if x4 < (x0.size : Int) then (if (bt x0 x4) = 46 then (spec_gemRuns.l0 k x0 x3 x5) else (if x4 ≤ x5 then (if x5 ≤ (x0.size : Int) then (if x3.length < 8796093022208 then (spec_gemRuns.l0 k x0 (x3 ++ [x0.extract (x4 : Int).toNat (x5 : Int).toNat]) x5) else (none)) else (none)) else (none))) else (none)) else (none))
end
def spec_gemRuns.f (k : Nat) (a0 : ByteArray) : Option (List ByteArray) := spec_gemRuns.l0 k a0 ([] : List ByteArray) 0
theorem spec_gemRuns.mono_l : ∀ k, (∀ y0 y1 y2, LeO (spec_gemRuns.l0 k y0 y1 y2) (spec_gemRuns.l0 (k + 1) y0 y1 y2)) ∧ (∀ y0 y1 y2 y3, LeO (spec_gemRuns.l1 k y0 y1 y2 y3) (spec_gemRuns.l1 (k + 1) y0 y1 y2 y3))
  | 0 => ⟨fun _ _ _ r h => by simp [spec_gemRuns.l0] at h, fun _ _ _ _ r h => by simp [spec_gemRuns.l1] at h⟩
  | k + 1 => by
    obtain ⟨ih0, ih1⟩ := spec_gemRuns.mono_l k
    refine ⟨?_, ?_⟩
    · intro y0 y1 y2
      unfold spec_gemRuns.l0
      repeat' first
      | (with_reducible exact ih0 _ _ _)
      | (with_reducible exact ih1 _ _ _ _)
      | (with_reducible exact LeO.refl _)
      | (with_reducible exact LeO.none _)
      | (with_reducible refine LeO.ite ?_ ?_)
      | (with_reducible refine LeO.bind ?_ (fun _ => ?_))
      | exact ih0 _ _ _
      | exact ih1 _ _ _ _
      | exact LeO.none _
      | refine LeO.ite ?_ ?_
      | refine LeO.bind ?_ (fun _ => ?_)
    · intro y0 y1 y2 y3
      unfold spec_gemRuns.l1
      repeat' first
      | (with_reducible exact ih0 _ _ _)
      | (with_reducible exact ih1 _ _ _ _)
      | (with_reducible exact LeO.refl _)
      | (with_reducible exact LeO.none _)
      | (with_reducible refine LeO.ite ?_ ?_)
      | (with_reducible refine LeO.bind ?_ (fun _ => ?_))
      | exact ih0 _ _ _
      | exact ih1 _ _ _ _
      | exact LeO.none _
      | refine LeO.ite ?_ ?_
      | refine LeO.bind ?_ (fun _ => ?_)
theorem spec_gemRuns.mono : ∀ a0 k, LeO (spec_gemRuns.f k a0) (spec_gemRuns.f (k + 1) a0) := by
  intro a0 k
  obtain ⟨ih0, ih1⟩ := spec_gemRuns.mono_l k
  unfold spec_gemRuns.f
  repeat' first
      | (with_reducible exact ih0 _ _ _)
      | (with_reducible exact ih1 _ _ _ _)
      | (with_reducible exact LeO.refl _)
      | (with_reducible exact LeO.none _)
      | (with_reducible refine LeO.ite ?_ ?_)
      | (with_reducible refine LeO.bind ?_ (fun _ => ?_))
      | exact ih0 _ _ _
      | exact ih1 _ _ _ _
      | exact LeO.none _
      | refine LeO.ite ?_ ?_
      | refine LeO.bind ?_ (fun _ => ?_)
set_option maxHeartbeats 8000000 in
set_option maxRecDepth 100000 in
theorem spec_gemRuns.calls (k : Nat) (a0 : ByteArray) (r : List ByteArray) (w : World) (h : spec_gemRuns.f k a0 = some r) :
    Calls Tryd.prog 60 #[.string a0] w fun e w' => ∃ v0_ : Value, e = .returned (v0_) ∧ Kd.R Kd.string 9 w' w.heap.size (fun _ => True) v0_ r ∧ Below w.heap.size w w' := by
  have HB := Aside0.mk (Below.refl w.heap.size w)
  have H : (spec_gemRuns.l0 k a0 ([] : List ByteArray) 0) = some r := h
  clear h
  have H' := Aside0.mk H
  clear H
  go_enter Tryd.func60, Tryd.ntmps60
  go_wp2
  repeat (go_quiet (fail); try go_wp2)
  go_loopg [3, 4] k (fun kq v3 v4 w' => ∃ (x3_1 : List ByteArray) (x4_1 : Int), v4 = .int .i64 x4_1 ∧ Aside0 (spec_gemRuns.l0 kq a0 x3_1 x4_1 = some r) ∧ Aside0 (kq ≤ k) ∧ Aside0 (Kd.R Kd.string 9 w' w.heap.size (fun _ => True) v3 x3_1) ∧ Aside0 (Below w.heap.size w w'))
  case atStart => exact ⟨(([] : List ByteArray)), (0), (by first | rfl | (simp; done) | (simp [*]; done) | (simp [bne_nil_]; done)), H', ⟨Nat.le_refl _⟩, ⟨by first | exact Kd.R_nil _ _ _ _ _ | exact Kd.N_nil _ _ _ _ _ | exact Kd.V_nil _ _ _ _ _ | exact Kd.Q_nil _ _ _ _ _ | exact Kd.S_nil _ _ _ _ _⟩, ⟨by repeat (first | (with_reducible first | exact HB.out | apply below_alloc | apply pw_below_drewN | apply below_drew1) | exact HB.out)⟩⟩
  case round =>
    clear H'
    obtain ⟨x3_1, x4_1, rfl, HA, HK1, HO_3, HB⟩ := hrel
    cases gk with
    | zero => exact absurd HA.out (by simp [spec_gemRuns.l0])
    | succ k1 =>
      have H := HA.out
      clear HA
      simp only [spec_gemRuns.l0] at H
      by_cases c2 : x4_1 < (a0.size : Int)
      · rw [if_pos c2] at H
        have c2b0 : decide (x4_1 < (a0.size : Int)) = true := decide_eq_true c2
        clear c2
        have H' := Aside0.mk H
        clear H
        go_wp2
        repeat (go_quiet (fail); try go_wp2)
        go_loopg [5] k1 (fun kq v5 w' => ∃ (x5_2 : Int), v5 = .int .i64 x5_2 ∧ Aside0 (spec_gemRuns.l1 kq a0 x3_1 x4_1 x5_2 = some r) ∧ Aside0 (kq ≤ k1) ∧ Aside0 (Kd.R Kd.string 9 w' w.heap.size (fun _ => True) u3 x3_1) ∧ Aside0 (Below w.heap.size w w'))
        case atStart => exact ⟨(wrap64 (x4_1 + 1)), (by first | rfl | (simp; done) | (simp [*]; done) | (simp [bne_nil_]; done)), H', ⟨Nat.le_refl _⟩, ⟨by (with_reducible repeat (first | apply Kd.R_alloc | apply Kd.R_drewN | apply Kd.R_drew)); exact HO_3.out⟩, ⟨by repeat (first | (with_reducible first | exact HB.out | apply below_alloc | apply pw_below_drewN | apply below_drew1) | exact HB.out)⟩⟩
        case round =>
          clear H'
          try clear c2
          try clear c2b0
          try clear p2
          obtain ⟨x5_2, rfl, HA, HK2, HO_3, HB⟩ := hrel
          cases gk with
          | zero => exact absurd HA.out (by simp [spec_gemRuns.l1])
          | succ k2 =>
            have H := HA.out
            clear HA
            simp only [spec_gemRuns.l1] at H
            by_cases c3 : x5_2 < (a0.size : Int)
            · rw [if_pos c3] at H
              have c3b0 : decide (x5_2 < (a0.size : Int)) = true := decide_eq_true c3
              clear c3
              by_cases c4 : 0 ≤ x4_1
              · rw [if_pos c4] at H
                have c4b0 : decide (0 ≤ x4_1) = true := decide_eq_true c4
                clear c4
                by_cases c5 : x4_1 < (a0.size : Int)
                · rw [if_pos c5] at H
                  have c5b0 : decide (x4_1 < (a0.size : Int)) = true := decide_eq_true c5
                  clear c5
                  by_cases c7 : (bt a0 x4_1) = 46
                  · rw [if_pos c7] at H
                    have c7b0 : ((bt a0 x4_1) == 46) = true := beq_iff_eq.mpr c7
                    have c7b1 : ((bt a0 x4_1) != 46) = false := bne_eq_false_iff_eq.mpr c7
                    clear c7
                    have H' := Aside0.mk H
                    clear H
                    have p6 : 0 ≤ (x4_1 : Int) := of_decide_eq_true (by first | (with_reducible assumption) | assumption)
                    have q6 : x4_1 < (a0.size : Int) := of_decide_eq_true (by first | (with_reducible assumption) | assumption)
                    have hx6 := bt_at a0 x4_1
                    replace p6 := eq_true p6
                    replace q6 := eq_true q6
                    have p8 : 0 ≤ (x4_1 : Int) := of_decide_eq_true (by first | (with_reducible assumption) | assumption)
                    have q8 : x4_1 < (a0.size : Int) := of_decide_eq_true (by first | (with_reducible assumption) | assumption)
                    have hx8 := bt_at a0 x4_1
                    replace p8 := eq_true p8
                    replace q8 := eq_true q8
                    go_wp2
                    repeat (go_quiet (fail); try go_wp2)
                    go_roundg k2
                    case measure => have := HK1.out; have := HK2.out; omega
                    case rel => exact ⟨(x3_1), (x5_2), (by first | rfl | (simp; done) | (simp [*]; done) | (simp [bne_nil_]; done)), H', ⟨by have := HK1.out; have := HK2.out; omega⟩, ⟨by (with_reducible repeat (first | apply Kd.R_alloc | apply Kd.R_drewN | apply Kd.R_drew)); exact HO_3.out⟩, ⟨by repeat (first | (with_reducible first | exact HB.out | apply below_alloc | apply pw_below_drewN | apply below_drew1) | exact HB.out)⟩⟩
                  · rw [if_neg c7] at H
                    have c7b0 : ((bt a0 x4_1) == 46) = false := beq_eq_false_iff_ne.mpr c7
                    have c7b1 : ((bt a0 x4_1) != 46) = true := bne_iff_ne.mpr c7
                    by_cases c9 : 0 ≤ x5_2
                    · rw [if_pos c9] at H
                      have c9b0 : decide (0 ≤ x5_2) = true := decide_eq_true c9
                      clear c9
                      by_cases c11 : (bt a0 x5_2) = 46
                      · rw [if_pos c11] at H
                        have c11b0 : ((bt a0 x5_2) == 46) = true := beq_iff_eq.mpr c11
                        have c11b1 : ((bt a0 x5_2) != 46) = false := bne_eq_false_iff_eq.mpr c11
                        clear c11
                        have c13b0 := eq_true (of_decide_eq_true (by first | (with_reducible assumption) | assumption) : 0 ≤ x4_1)
                        by_cases c14 : x4_1 ≤ x5_2
                        · rw [if_pos c14] at H
                          have c14b0 := eq_true c14
                          have c14b1 : decide (x4_1 ≤ x5_2) = true := decide_eq_true c14
                          clear c14
                          by_cases c15 : x5_2 ≤ (a0.size : Int)
                          · rw [if_pos c15] at H
                            have c15b0 := eq_true c15
                            have c15b1 : decide (x5_2 ≤ (a0.size : Int)) = true := decide_eq_true c15
                            clear c15
                            by_cases c16 : x3_1.length < 8796093022208
                            · rw [if_pos c16] at H
                              have LMc16 := Aside0.mk c16
                              clear c16
                              obtain ⟨y296, hy296⟩ : ∃ y_ : List ByteArray, y_ = (x3_1 ++ [a0.extract (x4_1 : Int).toNat (x5_2 : Int).toNat]) := ⟨_, rfl⟩
                              replace H : (spec_gemRuns.l0 k2 a0 y296 x5_2) = some r := by first | (rw [hy296]; with_reducible exact H) | (have H2_ := (Option.bind_some _ _).symm.trans H; rw [hy296]; with_reducible exact H2_) | (have H2_ := (Option.bind_some _ _).symm.trans H; with_reducible exact H2_) | with_reducible exact H | (rw [hy296]; exact H) | exact H
                              have Ny296 := Aside0.mk hy296
                              clear hy296
                              have H' := Aside0.mk H
                              clear H
                              have p6 : 0 ≤ (x4_1 : Int) := of_decide_eq_true (by first | (with_reducible assumption) | assumption)
                              have q6 : x4_1 < (a0.size : Int) := of_decide_eq_true (by first | (with_reducible assumption) | assumption)
                              have hx6 := bt_at a0 x4_1
                              replace p6 := eq_true p6
                              replace q6 := eq_true q6
                              have p10 : 0 ≤ (x5_2 : Int) := of_decide_eq_true (by first | (with_reducible assumption) | assumption)
                              have q10 : x5_2 < (a0.size : Int) := of_decide_eq_true (by first | (with_reducible assumption) | assumption)
                              have hx10 := bt_at a0 x5_2
                              replace p10 := eq_true p10
                              replace q10 := eq_true q10
                              have p12 : 0 ≤ (x4_1 : Int) := of_decide_eq_true (by first | (with_reducible assumption) | assumption)
                              have q12 : x4_1 < (a0.size : Int) := of_decide_eq_true (by first | (with_reducible assumption) | assumption)
                              have hx12 := bt_at a0 x4_1
                              replace p12 := eq_true p12
                              replace q12 := eq_true q12
                              go_wp2_with (first | ((with_reducible refine gate_builtin (b := .append) (xs := #[.tmp 45, .tmp 50]) rfl ?_); at_builtin; refine Kd.R_append Kd.string (w0 := w) w.heap.size rfl (.tmp 45) (.tmp 50) 28 9 (.string ⟨#[]⟩) 16 rfl Tryd.underlying28 info9 rfl (by decide) (by omega) u3 x3_1 (a0.extract (x4_1 : Int).toNat (x5_2 : Int).toNat) [.string (a0.extract (x4_1 : Int).toNat (x5_2 : Int).toNat)] (fun _ => True) (fun _ => False) rfl rfl ?aP (fun _ hk => hk.elim) ?aF ?aO ?aB ?aS ?aL ?_; (case aP => exact rfl); (case aB => exact (by repeat (first | (with_reducible first | exact HB.out | apply below_alloc | apply pw_below_drewN | apply below_drew1) | exact HB.out))); (case aF => exact (fun _ _ => trivial)); (case aO => exact (by (with_reducible repeat (first | apply Kd.R_alloc | apply Kd.R_drewN | apply Kd.R_drew)); exact HO_3.out)); (case aS => exact (below_size (by repeat (first | (with_reducible first | exact HB.out | apply below_alloc | apply pw_below_drewN | apply below_drew1) | exact HB.out)))); (case aL => have := LMc16.out; omega); intro v297 w17 ho hb hg hat; rw [← Ny296.out] at ho; have n0_ := Aside0.mk (hb); have n1_ := Aside0.mk (ho); clear HB; clear HO_3; have HB := n0_; have HO298 := n1_; clear n0_ n1_; clear ho hb hg hat))
                              repeat (go_quiet (first | ((with_reducible refine gate_builtin (b := .append) (xs := #[.tmp 45, .tmp 50]) rfl ?_); at_builtin; refine Kd.R_append Kd.string (w0 := w) w.heap.size rfl (.tmp 45) (.tmp 50) 28 9 (.string ⟨#[]⟩) 16 rfl Tryd.underlying28 info9 rfl (by decide) (by omega) u3 x3_1 (a0.extract (x4_1 : Int).toNat (x5_2 : Int).toNat) [.string (a0.extract (x4_1 : Int).toNat (x5_2 : Int).toNat)] (fun _ => True) (fun _ => False) rfl rfl ?aP (fun _ hk => hk.elim) ?aF ?aO ?aB ?aS ?aL ?_; (case aP => exact rfl); (case aB => exact (by repeat (first | (with_reducible first | exact HB.out | apply below_alloc | apply pw_below_drewN | apply below_drew1) | exact HB.out))); (case aF => exact (fun _ _ => trivial)); (case aO => exact (by (with_reducible repeat (first | apply Kd.R_alloc | apply Kd.R_drewN | apply Kd.R_drew)); exact HO_3.out)); (case aS => exact (below_size (by repeat (first | (with_reducible first | exact HB.out | apply below_alloc | apply pw_below_drewN | apply below_drew1) | exact HB.out)))); (case aL => have := LMc16.out; omega); intro v297 w17 ho hb hg hat; rw [← Ny296.out] at ho; have n0_ := Aside0.mk (hb); have n1_ := Aside0.mk (ho); clear HB; clear HO_3; have HB := n0_; have HO298 := n1_; clear n0_ n1_; clear ho hb hg hat)); try go_wp2_with (first | ((with_reducible refine gate_builtin (b := .append) (xs := #[.tmp 45, .tmp 50]) rfl ?_); at_builtin; refine Kd.R_append Kd.string (w0 := w) w.heap.size rfl (.tmp 45) (.tmp 50) 28 9 (.string ⟨#[]⟩) 16 rfl Tryd.underlying28 info9 rfl (by decide) (by omega) u3 x3_1 (a0.extract (x4_1 : Int).toNat (x5_2 : Int).toNat) [.string (a0.extract (x4_1 : Int).toNat (x5_2 : Int).toNat)] (fun _ => True) (fun _ => False) rfl rfl ?aP (fun _ hk => hk.elim) ?aF ?aO ?aB ?aS ?aL ?_; (case aP => exact rfl); (case aB => exact (by repeat (first | (with_reducible first | exact HB.out | apply below_alloc | apply pw_below_drewN | apply below_drew1) | exact HB.out))); (case aF => exact (fun _ _ => trivial)); (case aO => exact (by (with_reducible repeat (first | apply Kd.R_alloc | apply Kd.R_drewN | apply Kd.R_drew)); exact HO_3.out)); (case aS => exact (below_size (by repeat (first | (with_reducible first | exact HB.out | apply below_alloc | apply pw_below_drewN | apply below_drew1) | exact HB.out)))); (case aL => have := LMc16.out; omega); intro v297 w17 ho hb hg hat; rw [← Ny296.out] at ho; have n0_ := Aside0.mk (hb); have n1_ := Aside0.mk (ho); clear HB; clear HO_3; have HB := n0_; have HO298 := n1_; clear n0_ n1_; clear ho hb hg hat)))
                              go_roundg k2
                              case measure => have := HK1.out; have := HK2.out; omega
                              case rel => exact ⟨(y296), (x5_2), (by first | rfl | (simp; done) | (simp [*]; done) | (simp [bne_nil_]; done)), H', ⟨by have := HK1.out; have := HK2.out; omega⟩, ⟨by (with_reducible repeat (first | apply Kd.R_alloc | apply Kd.R_drewN | apply Kd.R_drew)); exact HO298.out⟩, ⟨by repeat (first | (with_reducible first | exact HB.out | apply below_alloc | apply pw_below_drewN | apply below_drew1) | exact HB.out)⟩⟩
                            · rw [if_neg c16] at H
                              exact absurd H (by simp)
                          · rw [if_neg c15] at H
                            exact absurd H (by simp)
                        · rw [if_neg c14] at H
                          exact absurd H (by simp)
                      · rw [if_neg c11] at H
                        have c11b0 : ((bt a0 x5_2) == 46) = false := beq_eq_false_iff_ne.mpr c11
                        have c11b1 : ((bt a0 x5_2) != 46) = true := bne_iff_ne.mpr c11
                        replace H := Option.bind_eq_some_iff.mp H
                        obtain ⟨t299, A190, H⟩ := H
                        replace H : ((spec_isDigit.f (bt a0 x4_1)).bind fun t300 => (if (t299 == t300) = true then (spec_gemRuns.l1 k2 a0 x3_1 x4_1 (wrap64 (x5_2 + 1))) else (if x4_1 ≤ x5_2 then (if x5_2 ≤ (a0.size : Int) then (if x3_1.length < 8796093022208 then (spec_gemRuns.l0 k2 a0 (x3_1 ++ [a0.extract (x4_1 : Int).toNat (x5_2 : Int).toNat]) x5_2) else (none)) else (none)) else (none)))) = some r := H
                        have A19 := Aside0.mk A190
                        clear A190
                        replace H := Option.bind_eq_some_iff.mp H
                        obtain ⟨t300, A210, H⟩ := H
                        replace H : (if (t299 == t300) = true then (spec_gemRuns.l1 k2 a0 x3_1 x4_1 (wrap64 (x5_2 + 1))) else (if x4_1 ≤ x5_2 then (if x5_2 ≤ (a0.size : Int) then (if x3_1.length < 8796093022208 then (spec_gemRuns.l0 k2 a0 (x3_1 ++ [a0.extract (x4_1 : Int).toNat (x5_2 : Int).toNat]) x5_2) else (none)) else (none)) else (none))) = some r := H
                        have A21 := Aside0.mk A210
                        clear A210
                        by_cases c22 : (t299 == t300) = true
                        · rw [if_pos c22] at H
                          have c22b0 : (t299 == t300) = true := c22
                          (try (have c22b1 : decide (t299 = t300) = true := by simpa using c22))
                          (try (have c22b2 : (t299 == t300) = true := by simpa using c22))
                          clear c22
                          have H' := Aside0.mk H
                          clear H
                          have p6 : 0 ≤ (x4_1 : Int) := of_decide_eq_true (by first | (with_reducible assumption) | assumption)
                          have q6 : x4_1 < (a0.size : Int) := of_decide_eq_true (by first | (with_reducible assumption) | assumption)
                          have hx6 := bt_at a0 x4_1
                          replace p6 := eq_true p6
                          replace q6 := eq_true q6
                          have p10 : 0 ≤ (x5_2 : Int) := of_decide_eq_true (by first | (with_reducible assumption) | assumption)
                          have q10 : x5_2 < (a0.size : Int) := of_decide_eq_true (by first | (with_reducible assumption) | assumption)
                          have hx10 := bt_at a0 x5_2
                          replace p10 := eq_true p10
                          replace q10 := eq_true q10
                          have p18 : 0 ≤ (x5_2 : Int) := of_decide_eq_true (by first | (with_reducible assumption) | assumption)
                          have q18 : x5_2 < (a0.size : Int) := of_decide_eq_true (by first | (with_reducible assumption) | assumption)
                          have hx18 := bt_at a0 x5_2
                          replace p18 := eq_true p18
                          replace q18 := eq_true q18
                          go_wp2_with (first | (go_at_call 56; (with_reducible refine (spec_isDigit.calls (bt a0 x5_2) t299 _ A19.out).mono ?_); rintro e w' ⟨rfl, ⟨nd, rfl⟩⟩; (try first | exact ⟨rfl, _, World.drewN_drewN _ _ _⟩ | exact ⟨rfl, _, Eq.trans (World.drewN_drewN _ _ _) (congrArg (World.drewN _) (Nat.add_assoc _ _ _))⟩); have p20 : 0 ≤ (x4_1 : Int) := of_decide_eq_true (by first | (with_reducible assumption) | assumption); have q20 : x4_1 < (a0.size : Int) := of_decide_eq_true (by first | (with_reducible assumption) | assumption); have hx20 := bt_at a0 x4_1; replace p20 := eq_true p20; replace q20 := eq_true q20) | (go_at_call 56; (with_reducible refine (spec_isDigit.calls (bt a0 x4_1) t300 _ A21.out).mono ?_); rintro e w' ⟨rfl, ⟨nd, rfl⟩⟩; (try first | exact ⟨rfl, _, World.drewN_drewN _ _ _⟩ | exact ⟨rfl, _, Eq.trans (World.drewN_drewN _ _ _) (congrArg (World.drewN _) (Nat.add_assoc _ _ _))⟩)))
                          repeat (go_quiet (first | (go_at_call 56; (with_reducible refine (spec_isDigit.calls (bt a0 x5_2) t299 _ A19.out).mono ?_); rintro e w' ⟨rfl, ⟨nd, rfl⟩⟩; (try first | exact ⟨rfl, _, World.drewN_drewN _ _ _⟩ | exact ⟨rfl, _, Eq.trans (World.drewN_drewN _ _ _) (congrArg (World.drewN _) (Nat.add_assoc _ _ _))⟩); have p20 : 0 ≤ (x4_1 : Int) := of_decide_eq_true (by first | (with_reducible assumption) | assumption); have q20 : x4_1 < (a0.size : Int) := of_decide_eq_true (by first | (with_reducible assumption) | assumption); have hx20 := bt_at a0 x4_1; replace p20 := eq_true p20; replace q20 := eq_true q20) | (go_at_call 56; (with_reducible refine (spec_isDigit.calls (bt a0 x4_1) t300 _ A21.out).mono ?_); rintro e w' ⟨rfl, ⟨nd, rfl⟩⟩; (try first | exact ⟨rfl, _, World.drewN_drewN _ _ _⟩ | exact ⟨rfl, _, Eq.trans (World.drewN_drewN _ _ _) (congrArg (World.drewN _) (Nat.add_assoc _ _ _))⟩))); try go_wp2_with (first | (go_at_call 56; (with_reducible refine (spec_isDigit.calls (bt a0 x5_2) t299 _ A19.out).mono ?_); rintro e w' ⟨rfl, ⟨nd, rfl⟩⟩; (try first | exact ⟨rfl, _, World.drewN_drewN _ _ _⟩ | exact ⟨rfl, _, Eq.trans (World.drewN_drewN _ _ _) (congrArg (World.drewN _) (Nat.add_assoc _ _ _))⟩); have p20 : 0 ≤ (x4_1 : Int) := of_decide_eq_true (by first | (with_reducible assumption) | assumption); have q20 : x4_1 < (a0.size : Int) := of_decide_eq_true (by first | (with_reducible assumption) | assumption); have hx20 := bt_at a0 x4_1; replace p20 := eq_true p20; replace q20 := eq_true q20) | (go_at_call 56; (with_reducible refine (spec_isDigit.calls (bt a0 x4_1) t300 _ A21.out).mono ?_); rintro e w' ⟨rfl, ⟨nd, rfl⟩⟩; (try first | exact ⟨rfl, _, World.drewN_drewN _ _ _⟩ | exact ⟨rfl, _, Eq.trans (World.drewN_drewN _ _ _) (congrArg (World.drewN _) (Nat.add_assoc _ _ _))⟩))))
                          go_roundg k2
                          case measure => have := HK1.out; have := HK2.out; omega
                          case rel => exact ⟨(wrap64 (x5_2 + 1)), (by first | rfl | (simp; done) | (simp [*]; done) | (simp [bne_nil_]; done)), H', ⟨by have := HK1.out; have := HK2.out; omega⟩, ⟨by (with_reducible repeat (first | apply Kd.R_alloc | apply Kd.R_drewN | apply Kd.R_drew)); exact HO_3.out⟩, ⟨by repeat (first | (with_reducible first | exact HB.out | apply below_alloc | apply pw_below_drewN | apply below_drew1) | exact HB.out)⟩⟩
                        · rw [if_neg c22] at H
                          have c22b0 : (t299 == t300) = false := by simpa using c22
                          (try (have c22b1 : decide (t299 = t300) = false := by simpa using c22))
                          (try (have c22b2 : (t299 == t300) = false := by simpa using c22))
                          (try (have c22b3 : ¬ (t299 = t300) := by simpa using c22))
                          clear c22
                          have c24b0 := eq_true (of_decide_eq_true (by first | (with_reducible assumption) | assumption) : 0 ≤ x4_1)
                          by_cases c25 : x4_1 ≤ x5_2
                          · rw [if_pos c25] at H
                            have c25b0 := eq_true c25
                            have c25b1 : decide (x4_1 ≤ x5_2) = true := decide_eq_true c25
                            clear c25
                            by_cases c26 : x5_2 ≤ (a0.size : Int)
                            · rw [if_pos c26] at H
                              have c26b0 := eq_true c26
                              have c26b1 : decide (x5_2 ≤ (a0.size : Int)) = true := decide_eq_true c26
                              clear c26
                              by_cases c27 : x3_1.length < 8796093022208
                              · rw [if_pos c27] at H
                                have LMc27 := Aside0.mk c27
                                clear c27
                                obtain ⟨y301, hy301⟩ : ∃ y_ : List ByteArray, y_ = (x3_1 ++ [a0.extract (x4_1 : Int).toNat (x5_2 : Int).toNat]) := ⟨_, rfl⟩
                                replace H : (spec_gemRuns.l0 k2 a0 y301 x5_2) = some r := by first | (rw [hy301]; with_reducible exact H) | (have H2_ := (Option.bind_some _ _).symm.trans H; rw [hy301]; with_reducible exact H2_) | (have H2_ := (Option.bind_some _ _).symm.trans H; with_reducible exact H2_) | with_reducible exact H | (rw [hy301]; exact H) | exact H
                                have Ny301 := Aside0.mk hy301
                                clear hy301
                                have H' := Aside0.mk H
                                clear H
                                have p6 : 0 ≤ (x4_1 : Int) := of_decide_eq_true (by first | (with_reducible assumption) | assumption)
                                have q6 : x4_1 < (a0.size : Int) := of_decide_eq_true (by first | (with_reducible assumption) | assumption)
                                have hx6 := bt_at a0 x4_1
                                replace p6 := eq_true p6
                                replace q6 := eq_true q6
                                have p10 : 0 ≤ (x5_2 : Int) := of_decide_eq_true (by first | (with_reducible assumption) | assumption)
                                have q10 : x5_2 < (a0.size : Int) := of_decide_eq_true (by first | (with_reducible assumption) | assumption)
                                have hx10 := bt_at a0 x5_2
                                replace p10 := eq_true p10
                                replace q10 := eq_true q10
                                have p18 : 0 ≤ (x5_2 : Int) := of_decide_eq_true (by first | (with_reducible assumption) | assumption)
                                have q18 : x5_2 < (a0.size : Int) := of_decide_eq_true (by first | (with_reducible assumption) | assumption)
                                have hx18 := bt_at a0 x5_2
                                replace p18 := eq_true p18
                                replace q18 := eq_true q18
                                go_wp2_with (first | (go_at_call 56; (with_reducible refine (spec_isDigit.calls (bt a0 x5_2) t299 _ A19.out).mono ?_); rintro e w' ⟨rfl, ⟨nd, rfl⟩⟩; (try first | exact ⟨rfl, _, World.drewN_drewN _ _ _⟩ | exact ⟨rfl, _, Eq.trans (World.drewN_drewN _ _ _) (congrArg (World.drewN _) (Nat.add_assoc _ _ _))⟩); have p20 : 0 ≤ (x4_1 : Int) := of_decide_eq_true (by first | (with_reducible assumption) | assumption); have q20 : x4_1 < (a0.size : Int) := of_decide_eq_true (by first | (with_reducible assumption) | assumption); have hx20 := bt_at a0 x4_1; replace p20 := eq_true p20; replace q20 := eq_true q20) | (go_at_call 56; (with_reducible refine (spec_isDigit.calls (bt a0 x4_1) t300 _ A21.out).mono ?_); rintro e w' ⟨rfl, ⟨nd, rfl⟩⟩; (try first | exact ⟨rfl, _, World.drewN_drewN _ _ _⟩ | exact ⟨rfl, _, Eq.trans (World.drewN_drewN _ _ _) (congrArg (World.drewN _) (Nat.add_assoc _ _ _))⟩); have p23 : 0 ≤ (x4_1 : Int) := of_decide_eq_true (by first | (with_reducible assumption) | assumption); have q23 : x4_1 < (a0.size : Int) := of_decide_eq_true (by first | (with_reducible assumption) | assumption); have hx23 := bt_at a0 x4_1; replace p23 := eq_true p23; replace q23 := eq_true q23) | ((with_reducible refine gate_builtin (b := .append) (xs := #[.tmp 45, .tmp 50]) rfl ?_); at_builtin; refine Kd.R_append Kd.string (w0 := w) w.heap.size rfl (.tmp 45) (.tmp 50) 28 9 (.string ⟨#[]⟩) 16 rfl Tryd.underlying28 info9 rfl (by decide) (by omega) u3 x3_1 (a0.extract (x4_1 : Int).toNat (x5_2 : Int).toNat) [.string (a0.extract (x4_1 : Int).toNat (x5_2 : Int).toNat)] (fun _ => True) (fun _ => False) rfl rfl ?aP (fun _ hk => hk.elim) ?aF ?aO ?aB ?aS ?aL ?_; (case aP => exact rfl); (case aB => exact (by repeat (first | (with_reducible first | exact HB.out | apply below_alloc | apply pw_below_drewN | apply below_drew1) | exact HB.out))); (case aF => exact (fun _ _ => trivial)); (case aO => exact (by (with_reducible repeat (first | apply Kd.R_alloc | apply Kd.R_drewN | apply Kd.R_drew)); exact HO_3.out)); (case aS => exact (below_size (by repeat (first | (with_reducible first | exact HB.out | apply below_alloc | apply pw_below_drewN | apply below_drew1) | exact HB.out)))); (case aL => have := LMc27.out; omega); intro v302 w28 ho hb hg hat; rw [← Ny301.out] at ho; have n0_ := Aside0.mk (hb); have n1_ := Aside0.mk (ho); clear HB; clear HO_3; have HB := n0_; have HO303 := n1_; clear n0_ n1_; clear ho hb hg hat))
                                repeat (go_quiet (first | (go_at_call 56; (with_reducible refine (spec_isDigit.calls (bt a0 x5_2) t299 _ A19.out).mono ?_); rintro e w' ⟨rfl, ⟨nd, rfl⟩⟩; (try first | exact ⟨rfl, _, World.drewN_drewN _ _ _⟩ | exact ⟨rfl, _, Eq.trans (World.drewN_drewN _ _ _) (congrArg (World.drewN _) (Nat.add_assoc _ _ _))⟩); have p20 : 0 ≤ (x4_1 : Int) := of_decide_eq_true (by first | (with_reducible assumption) | assumption); have q20 : x4_1 < (a0.size : Int) := of_decide_eq_true (by first | (with_reducible assumption) | assumption); have hx20 := bt_at a0 x4_1; replace p20 := eq_true p20; replace q20 := eq_true q20) | (go_at_call 56; (with_reducible refine (spec_isDigit.calls (bt a0 x4_1) t300 _ A21.out).mono ?_); rintro e w' ⟨rfl, ⟨nd, rfl⟩⟩; (try first | exact ⟨rfl, _, World.drewN_drewN _ _ _⟩ | exact ⟨rfl, _, Eq.trans (World.drewN_drewN _ _ _) (congrArg (World.drewN _) (Nat.add_assoc _ _ _))⟩); have p23 : 0 ≤ (x4_1 : Int) := of_decide_eq_true (by first | (with_reducible assumption) | assumption); have q23 : x4_1 < (a0.size : Int) := of_decide_eq_true (by first | (with_reducible assumption) | assumption); have hx23 := bt_at a0 x4_1; replace p23 := eq_true p23; replace q23 := eq_true q23) | ((with_reducible refine gate_builtin (b := .append) (xs := #[.tmp 45, .tmp 50]) rfl ?_); at_builtin; refine Kd.R_append Kd.string (w0 := w) w.heap.size rfl (.tmp 45) (.tmp 50) 28 9 (.string ⟨#[]⟩) 16 rfl Tryd.underlying28 info9 rfl (by decide) (by omega) u3 x3_1 (a0.extract (x4_1 : Int).toNat (x5_2 : Int).toNat) [.string (a0.extract (x4_1 : Int).toNat (x5_2 : Int).toNat)] (fun _ => True) (fun _ => False) rfl rfl ?aP (fun _ hk => hk.elim) ?aF ?aO ?aB ?aS ?aL ?_; (case aP => exact rfl); (case aB => exact (by repeat (first | (with_reducible first | exact HB.out | apply below_alloc | apply pw_below_drewN | apply below_drew1) | exact HB.out))); (case aF => exact (fun _ _ => trivial)); (case aO => exact (by (with_reducible repeat (first | apply Kd.R_alloc | apply Kd.R_drewN | apply Kd.R_drew)); exact HO_3.out)); (case aS => exact (below_size (by repeat (first | (with_reducible first | exact HB.out | apply below_alloc | apply pw_below_drewN | apply below_drew1) | exact HB.out)))); (case aL => have := LMc27.out; omega); intro v302 w28 ho hb hg hat; rw [← Ny301.out] at ho; have n0_ := Aside0.mk (hb); have n1_ := Aside0.mk (ho); clear HB; clear HO_3; have HB := n0_; have HO303 := n1_; clear n0_ n1_; clear ho hb hg hat)); try go_wp2_with (first | (go_at_call 56; (with_reducible refine (spec_isDigit.calls (bt a0 x5_2) t299 _ A19.out).mono ?_); rintro e w' ⟨rfl, ⟨nd, rfl⟩⟩; (try first | exact ⟨rfl, _, World.drewN_drewN _ _ _⟩ | exact ⟨rfl, _, Eq.trans (World.drewN_drewN _ _ _) (congrArg (World.drewN _) (Nat.add_assoc _ _ _))⟩); have p20 : 0 ≤ (x4_1 : Int) := of_decide_eq_true (by first | (with_reducible assumption) | assumption); have q20 : x4_1 < (a0.size : Int) := of_decide_eq_true (by first | (with_reducible assumption) | assumption); have hx20 := bt_at a0 x4_1; replace p20 := eq_true p20; replace q20 := eq_true q20) | (go_at_call 56; (with_reducible refine (spec_isDigit.calls (bt a0 x4_1) t300 _ A21.out).mono ?_); rintro e w' ⟨rfl, ⟨nd, rfl⟩⟩; (try first | exact ⟨rfl, _, World.drewN_drewN _ _ _⟩ | exact ⟨rfl, _, Eq.trans (World.drewN_drewN _ _ _) (congrArg (World.drewN _) (Nat.add_assoc _ _ _))⟩); have p23 : 0 ≤ (x4_1 : Int) := of_decide_eq_true (by first | (with_reducible assumption) | assumption); have q23 : x4_1 < (a0.size : Int) := of_decide_eq_true (by first | (with_reducible assumption) | assumption); have hx23 := bt_at a0 x4_1; replace p23 := eq_true p23; replace q23 := eq_true q23) | ((with_reducible refine gate_builtin (b := .append) (xs := #[.tmp 45, .tmp 50]) rfl ?_); at_builtin; refine Kd.R_append Kd.string (w0 := w) w.heap.size rfl (.tmp 45) (.tmp 50) 28 9 (.string ⟨#[]⟩) 16 rfl Tryd.underlying28 info9 rfl (by decide) (by omega) u3 x3_1 (a0.extract (x4_1 : Int).toNat (x5_2 : Int).toNat) [.string (a0.extract (x4_1 : Int).toNat (x5_2 : Int).toNat)] (fun _ => True) (fun _ => False) rfl rfl ?aP (fun _ hk => hk.elim) ?aF ?aO ?aB ?aS ?aL ?_; (case aP => exact rfl); (case aB => exact (by repeat (first | (with_reducible first | exact HB.out | apply below_alloc | apply pw_below_drewN | apply below_drew1) | exact HB.out))); (case aF => exact (fun _ _ => trivial)); (case aO => exact (by (with_reducible repeat (first | apply Kd.R_alloc | apply Kd.R_drewN | apply Kd.R_drew)); exact HO_3.out)); (case aS => exact (below_size (by repeat (first | (with_reducible first | exact HB.out | apply below_alloc | apply pw_below_drewN | apply below_drew1) | exact HB.out)))); (case aL => have := LMc27.out; omega); intro v302 w28 ho hb hg hat; rw [← Ny301.out] at ho; have n0_ := Aside0.mk (hb); have n1_ := Aside0.mk (ho); clear HB; clear HO_3; have HB := n0_; have HO303 := n1_; clear n0_ n1_; clear ho hb hg hat)))
                                go_roundg k2
                                case measure => have := HK1.out; have := HK2.out; omega
                                case rel => exact ⟨(y301), (x5_2), (by first | rfl | (simp; done) | (simp [*]; done) | (simp [bne_nil_]; done)), H', ⟨by have := HK1.out; have := HK2.out; omega⟩, ⟨by (with_reducible repeat (first | apply Kd.R_alloc | apply Kd.R_drewN | apply Kd.R_drew)); exact HO303.out⟩, ⟨by repeat (first | (with_reducible first | exact HB.out | apply below_alloc | apply pw_below_drewN | apply below_drew1) | exact HB.out)⟩⟩
                              · rw [if_neg c27] at H
                                exact absurd H (by simp)
                            · rw [if_neg c26] at H
                              exact absurd H (by simp)
                          · rw [if_neg c25] at H
                            exact absurd H (by simp)
                    · rw [if_neg c9] at H
                      exact absurd H (by simp)
                · rw [if_neg c5] at H
                  exact absurd H (by simp)
              · rw [if_neg c4] at H
                exact absurd H (by simp)
            · rw [if_neg c3] at H
              have c3b0 : decide (x5_2 < (a0.size : Int)) = false := decide_eq_false c3
              clear c3
              by_cases c29 : 0 ≤ x4_1
              · rw [if_pos c29] at H
                have c29b0 : decide (0 ≤ x4_1) = true := decide_eq_true c29
                clear c29
                by_cases c30 : x4_1 < (a0.size : Int)
                · rw [if_pos c30] at H
                  have c30b0 : decide (x4_1 < (a0.size : Int)) = true := decide_eq_true c30
                  clear c30
                  by_cases c32 : (bt a0 x4_1) = 46
                  · rw [if_pos c32] at H
                    have c32b0 : ((bt a0 x4_1) == 46) = true := beq_iff_eq.mpr c32
                    have c32b1 : ((bt a0 x4_1) != 46) = false := bne_eq_false_iff_eq.mpr c32
                    clear c32
                    have H' := Aside0.mk H
                    clear H
                    have p31 : 0 ≤ (x4_1 : Int) := of_decide_eq_true (by first | (with_reducible assumption) | assumption)
                    have q31 : x4_1 < (a0.size : Int) := of_decide_eq_true (by first | (with_reducible assumption) | assumption)
                    have hx31 := bt_at a0 x4_1
                    replace p31 := eq_true p31
                    replace q31 := eq_true q31
                    go_wp2
                    repeat (go_quiet (fail); try go_wp2)
                    go_roundg k2
                    case measure => have := HK1.out; have := HK2.out; omega
                    case rel => exact ⟨(x3_1), (x5_2), (by first | rfl | (simp; done) | (simp [*]; done) | (simp [bne_nil_]; done)), H', ⟨by have := HK1.out; have := HK2.out; omega⟩, ⟨by (with_reducible repeat (first | apply Kd.R_alloc | apply Kd.R_drewN | apply Kd.R_drew)); exact HO_3.out⟩, ⟨by repeat (first | (with_reducible first | exact HB.out | apply below_alloc | apply pw_below_drewN | apply below_drew1) | exact HB.out)⟩⟩
                  · rw [if_neg c32] at H
                    have c32b0 : ((bt a0 x4_1) == 46) = false := beq_eq_false_iff_ne.mpr c32
                    have c32b1 : ((bt a0 x4_1) != 46) = true := bne_iff_ne.mpr c32
                    have c33b0 := eq_true (of_decide_eq_true (by first | (with_reducible assumption) | assumption) : 0 ≤ x4_1)
                    by_cases c34 : x4_1 ≤ x5_2
                    · rw [if_pos c34] at H
                      have c34b0 := eq_true c34
                      have c34b1 : decide (x4_1 ≤ x5_2) = true := decide_eq_true c34
                      clear c34
                      by_cases c35 : x5_2 ≤ (a0.size : Int)
                      · rw [if_pos c35] at H
                        have c35b0 := eq_true c35
                        have c35b1 : decide (x5_2 ≤ (a0.size : Int)) = true := decide_eq_true c35
                        clear c35
                        by_cases c36 : x3_1.length < 8796093022208
                        · rw [if_pos c36] at H
                          have LMc36 := Aside0.mk c36
                          clear c36
                          obtain ⟨y304, hy304⟩ : ∃ y_ : List ByteArray, y_ = (x3_1 ++ [a0.extract (x4_1 : Int).toNat (x5_2 : Int).toNat]) := ⟨_, rfl⟩
                          replace H : (spec_gemRuns.l0 k2 a0 y304 x5_2) = some r := by first | (rw [hy304]; with_reducible exact H) | (have H2_ := (Option.bind_some _ _).symm.trans H; rw [hy304]; with_reducible exact H2_) | (have H2_ := (Option.bind_some _ _).symm.trans H; with_reducible exact H2_) | with_reducible exact H | (rw [hy304]; exact H) | exact H
                          have Ny304 := Aside0.mk hy304
                          clear hy304
                          have H' := Aside0.mk H
                          clear H
                          have p31 : 0 ≤ (x4_1 : Int) := of_decide_eq_true (by first | (with_reducible assumption) | assumption)
                          have q31 : x4_1 < (a0.size : Int) := of_decide_eq_true (by first | (with_reducible assumption) | assumption)
                          have hx31 := bt_at a0 x4_1
                          replace p31 := eq_true p31
                          replace q31 := eq_true q31
                          go_wp2_with (first | ((with_reducible refine gate_builtin (b := .append) (xs := #[.tmp 45, .tmp 50]) rfl ?_); at_builtin; refine Kd.R_append Kd.string (w0 := w) w.heap.size rfl (.tmp 45) (.tmp 50) 28 9 (.string ⟨#[]⟩) 16 rfl Tryd.underlying28 info9 rfl (by decide) (by omega) u3 x3_1 (a0.extract (x4_1 : Int).toNat (x5_2 : Int).toNat) [.string (a0.extract (x4_1 : Int).toNat (x5_2 : Int).toNat)] (fun _ => True) (fun _ => False) rfl rfl ?aP (fun _ hk => hk.elim) ?aF ?aO ?aB ?aS ?aL ?_; (case aP => exact rfl); (case aB => exact (by repeat (first | (with_reducible first | exact HB.out | apply below_alloc | apply pw_below_drewN | apply below_drew1) | exact HB.out))); (case aF => exact (fun _ _ => trivial)); (case aO => exact (by (with_reducible repeat (first | apply Kd.R_alloc | apply Kd.R_drewN | apply Kd.R_drew)); exact HO_3.out)); (case aS => exact (below_size (by repeat (first | (with_reducible first | exact HB.out | apply below_alloc | apply pw_below_drewN | apply below_drew1) | exact HB.out)))); (case aL => have := LMc36.out; omega); intro v305 w37 ho hb hg hat; rw [← Ny304.out] at ho; have n0_ := Aside0.mk (hb); have n1_ := Aside0.mk (ho); clear HB; clear HO_3; have HB := n0_; have HO306 := n1_; clear n0_ n1_; clear ho hb hg hat))
                          repeat (go_quiet (first | ((with_reducible refine gate_builtin (b := .append) (xs := #[.tmp 45, .tmp 50]) rfl ?_); at_builtin; refine Kd.R_append Kd.string (w0 := w) w.heap.size rfl (.tmp 45) (.tmp 50) 28 9 (.string ⟨#[]⟩) 16 rfl Tryd.underlying28 info9 rfl (by decide) (by omega) u3 x3_1 (a0.extract (x4_1 : Int).toNat (x5_2 : Int).toNat) [.string (a0.extract (x4_1 : Int).toNat (x5_2 : Int).toNat)] (fun _ => True) (fun _ => False) rfl rfl ?aP (fun _ hk => hk.elim) ?aF ?aO ?aB ?aS ?aL ?_; (case aP => exact rfl); (case aB => exact (by repeat (first | (with_reducible first | exact HB.out | apply below_alloc | apply pw_below_drewN | apply below_drew1) | exact HB.out))); (case aF => exact (fun _ _ => trivial)); (case aO => exact (by (with_reducible repeat (first | apply Kd.R_alloc | apply Kd.R_drewN | apply Kd.R_drew)); exact HO_3.out)); (case aS => exact (below_size (by repeat (first | (with_reducible first | exact HB.out | apply below_alloc | apply pw_below_drewN | apply below_drew1) | exact HB.out)))); (case aL => have := LMc36.out; omega); intro v305 w37 ho hb hg hat; rw [← Ny304.out] at ho; have n0_ := Aside0.mk (hb); have n1_ := Aside0.mk (ho); clear HB; clear HO_3; have HB := n0_; have HO306 := n1_; clear n0_ n1_; clear ho hb hg hat)); try go_wp2_with (first | ((with_reducible refine gate_builtin (b := .append) (xs := #[.tmp 45, .tmp 50]) rfl ?_); at_builtin; refine Kd.R_append Kd.string (w0 := w) w.heap.size rfl (.tmp 45) (.tmp 50) 28 9 (.string ⟨#[]⟩) 16 rfl Tryd.underlying28 info9 rfl (by decide) (by omega) u3 x3_1 (a0.extract (x4_1 : Int).toNat (x5_2 : Int).toNat) [.string (a0.extract (x4_1 : Int).toNat (x5_2 : Int).toNat)] (fun _ => True) (fun _ => False) rfl rfl ?aP (fun _ hk => hk.elim) ?aF ?aO ?aB ?aS ?aL ?_; (case aP => exact rfl); (case aB => exact (by repeat (first | (with_reducible first | exact HB.out | apply below_alloc | apply pw_below_drewN | apply below_drew1) | exact HB.out))); (case aF => exact (fun _ _ => trivial)); (case aO => exact (by (with_reducible repeat (first | apply Kd.R_alloc | apply Kd.R_drewN | apply Kd.R_drew)); exact HO_3.out)); (case aS => exact (below_size (by repeat (first | (with_reducible first | exact HB.out | apply below_alloc | apply pw_below_drewN | apply below_drew1) | exact HB.out)))); (case aL => have := LMc36.out; omega); intro v305 w37 ho hb hg hat; rw [← Ny304.out] at ho; have n0_ := Aside0.mk (hb); have n1_ := Aside0.mk (ho); clear HB; clear HO_3; have HB := n0_; have HO306 := n1_; clear n0_ n1_; clear ho hb hg hat)))
                          go_roundg k2
                          case measure => have := HK1.out; have := HK2.out; omega
                          case rel => exact ⟨(y304), (x5_2), (by first | rfl | (simp; done) | (simp [*]; done) | (simp [bne_nil_]; done)), H', ⟨by have := HK1.out; have := HK2.out; omega⟩, ⟨by (with_reducible repeat (first | apply Kd.R_alloc | apply Kd.R_drewN | apply Kd.R_drew)); exact HO306.out⟩, ⟨by repeat (first | (with_reducible first | exact HB.out | apply below_alloc | apply pw_below_drewN | apply below_drew1) | exact HB.out)⟩⟩
                        · rw [if_neg c36] at H
                          exact absurd H (by simp)
                      · rw [if_neg c35] at H
                        exact absurd H (by simp)
                    · rw [if_neg c34] at H
                      exact absurd H (by simp)
                · rw [if_neg c30] at H
                  exact absurd H (by simp)
              · rw [if_neg c29] at H
                exact absurd H (by simp)
      · rw [if_neg c2] at H
        have c2b0 : decide (x4_1 < (a0.size : Int)) = false := decide_eq_false c2
        clear c2
        obtain rfl := Option.some.inj H
        go_wp2
        repeat (go_quiet (fail); try go_wp2)
        go_ret
        exact ⟨_, by first | rfl | (simp [errW_none, errW_some] <;> rfl) | (simp [*, errW_none, errW_some] <;> rfl) | (simp [bne_nil_]; done), by (with_reducible repeat (first | apply Kd.R_alloc | apply Kd.R_drewN | apply Kd.R_drew)); exact HO_3.out, by repeat (first | (with_reducible first | exact HB.out | apply below_alloc | apply pw_below_drewN | apply below_drew1) | exact HB.out)⟩

/-! ### spec_GemCompare: function 32 -/
def spec_GemCompare.f (k : Nat) (a0 : ByteArray) (a1 : ByteArray) : Option (Int) := (spec_gemRuns.f k a0).bind fun t307 => ((spec_gemFirst.f k t307).bind fun t310 => ((spec_RubyTrim.f k t310).bind fun t313 => ((spec_gemRuns.f k a1).bind fun t316 => ((spec_gemFirst.f k t316).bind fun t319 => ((spec_RubyTrim.f k t319).bind fun t322 => ((spec_RubySegments.f k t313 t322).bind fun t325 => (some t325)))))))
theorem spec_GemCompare.mono : ∀ a0 a1 k, LeO (spec_GemCompare.f k a0 a1) (spec_GemCompare.f (k + 1) a0 a1) := by
  intro a0 a1 k
  unfold spec_GemCompare.f
  repeat' first
      | (with_reducible exact spec_RubySegments.mono _ _ _)
      | (with_reducible exact spec_RubyTrim.mono _ _)
      | (with_reducible exact spec_gemFirst.mono _ _)
      | (with_reducible exact spec_gemRuns.mono _ _)
      | (with_reducible exact LeO.refl _)
      | (with_reducible exact LeO.none _)
      | (with_reducible refine LeO.ite ?_ ?_)
      | (with_reducible refine LeO.bind ?_ (fun _ => ?_))
      | exact spec_RubySegments.mono _ _ _
      | exact spec_RubyTrim.mono _ _
      | exact spec_gemFirst.mono _ _
      | exact spec_gemRuns.mono _ _
      | exact LeO.none _
      | refine LeO.ite ?_ ?_
      | refine LeO.bind ?_ (fun _ => ?_)
set_option maxHeartbeats 8000000 in
set_option maxRecDepth 100000 in
theorem spec_GemCompare.calls (k : Nat) (a0 : ByteArray) (a1 : ByteArray) (r : Int) (w : World) (h : spec_GemCompare.f k a0 a1 = some r) :
    Calls Tryd.prog 32 #[.string a0, .string a1] w fun e w' => e = .returned (.int .i64 r) ∧ Below w.heap.size w w' := by
  have HB := Aside0.mk (Below.refl w.heap.size w)
  have H : ((spec_gemRuns.f k a0).bind fun t307 => ((spec_gemFirst.f k t307).bind fun t310 => ((spec_RubyTrim.f k t310).bind fun t313 => ((spec_gemRuns.f k a1).bind fun t316 => ((spec_gemFirst.f k t316).bind fun t319 => ((spec_RubyTrim.f k t319).bind fun t322 => ((spec_RubySegments.f k t313 t322).bind fun t325 => (some t325)))))))) = some r := h
  clear h
  replace H := Option.bind_eq_some_iff.mp H
  obtain ⟨t307, A30, H⟩ := H
  replace H : ((spec_gemFirst.f k t307).bind fun t310 => ((spec_RubyTrim.f k t310).bind fun t313 => ((spec_gemRuns.f k a1).bind fun t316 => ((spec_gemFirst.f k t316).bind fun t319 => ((spec_RubyTrim.f k t319).bind fun t322 => ((spec_RubySegments.f k t313 t322).bind fun t325 => (some t325))))))) = some r := H
  have A3 := Aside0.mk A30
  clear A30
  replace H := Option.bind_eq_some_iff.mp H
  obtain ⟨t310, A40, H⟩ := H
  replace H : ((spec_RubyTrim.f k t310).bind fun t313 => ((spec_gemRuns.f k a1).bind fun t316 => ((spec_gemFirst.f k t316).bind fun t319 => ((spec_RubyTrim.f k t319).bind fun t322 => ((spec_RubySegments.f k t313 t322).bind fun t325 => (some t325)))))) = some r := H
  have A4 := Aside0.mk A40
  clear A40
  replace H := Option.bind_eq_some_iff.mp H
  obtain ⟨t313, A50, H⟩ := H
  replace H : ((spec_gemRuns.f k a1).bind fun t316 => ((spec_gemFirst.f k t316).bind fun t319 => ((spec_RubyTrim.f k t319).bind fun t322 => ((spec_RubySegments.f k t313 t322).bind fun t325 => (some t325))))) = some r := H
  have A5 := Aside0.mk A50
  clear A50
  replace H := Option.bind_eq_some_iff.mp H
  obtain ⟨t316, A60, H⟩ := H
  replace H : ((spec_gemFirst.f k t316).bind fun t319 => ((spec_RubyTrim.f k t319).bind fun t322 => ((spec_RubySegments.f k t313 t322).bind fun t325 => (some t325)))) = some r := H
  have A6 := Aside0.mk A60
  clear A60
  replace H := Option.bind_eq_some_iff.mp H
  obtain ⟨t319, A70, H⟩ := H
  replace H : ((spec_RubyTrim.f k t319).bind fun t322 => ((spec_RubySegments.f k t313 t322).bind fun t325 => (some t325))) = some r := H
  have A7 := Aside0.mk A70
  clear A70
  replace H := Option.bind_eq_some_iff.mp H
  obtain ⟨t322, A80, H⟩ := H
  replace H : ((spec_RubySegments.f k t313 t322).bind fun t325 => (some t325)) = some r := H
  have A8 := Aside0.mk A80
  clear A80
  replace H := Option.bind_eq_some_iff.mp H
  obtain ⟨t325, A90, H⟩ := H
  replace H : (some t325) = some r := H
  have A9 := Aside0.mk A90
  clear A90
  obtain rfl := Option.some.inj H
  go_enter Tryd.func32, Tryd.ntmps32
  go_wp2_with (first | ((with_reducible refine gate_callee (f := 60) rfl ?_); refine goesL_ (some 8) rfl rfl Tryd.func60 (by kernel_rfl) rfl #[.string a0] rfl (by (try simp only [List.map_toArray, List.map_cons, List.map_nil]); first | done | rfl | (simp only [List.length_drop, List.length_take]; rfl)) ?_; (with_reducible refine (spec_gemRuns.calls k a0 t307 _ A3.out).mono ?_); rintro e w10 ⟨v308, rfl, ho0, hb⟩; refine ⟨_, rfl, ?_⟩; have n0_ := Aside0.mk (Kd.R_lower ho0 (below_size (by repeat (first | (with_reducible first | exact HB.out | apply below_alloc | apply pw_below_drewN | apply below_drew1) | exact HB.out)))); have n1_ := Aside0.mk (below_step (by repeat (first | (with_reducible first | exact HB.out | apply below_alloc | apply pw_below_drewN | apply below_drew1) | exact HB.out)) hb); clear HB; have HO309 := n0_; have HB := n1_; clear n0_ n1_; (try clear hb); (try clear hb2); (try clear hk); (try clear hi); (try clear ho0); obtain ⟨Ao11, co11, eo11⟩ := Kd.R_slice HO309.out; subst eo11) | ((with_reducible refine gate_callee (f := 59) rfl ?_); refine goesL_ (some 9) rfl rfl Tryd.func59 (by kernel_rfl) rfl #[.slice Ao11 t307.length co11] rfl (by (try simp only [List.map_toArray, List.map_cons, List.map_nil]); first | done | rfl | (simp only [List.length_drop, List.length_take]; rfl)) ?_; (with_reducible refine (spec_gemFirst.calls k _ _ t307 t310 _ ?side1 ?side2 A4.out).mono ?_); (case side1 => repeat (first | exact (Kd.R_reads' HO309.out).2.2 | (with_reducible refine Kd.C_alloc ?_ _) | (with_reducible refine Kd.C_drewN ?_ _) | (with_reducible refine Kd.C_drew ?_))); (case side2 => exact (Kd.R_reads' HO309.out).2.1); rintro e w12 ⟨v311, rfl, ho0, hb⟩; refine ⟨_, rfl, ?_⟩; have n0_ := Aside0.mk (Kd.R_elder' (by (with_reducible repeat (first | apply Kd.R_alloc | apply Kd.R_drewN | apply Kd.R_drew)); exact HO309.out) (Kd.R_base ho0) hb); have n1_ := Aside0.mk (Kd.R_lower (Kd.R_new' ho0 (Kd.R_lt (by (with_reducible repeat (first | apply Kd.R_alloc | apply Kd.R_drewN | apply Kd.R_drew)); exact HO309.out))) (below_size (by repeat (first | (with_reducible first | exact HB.out | apply below_alloc | apply pw_below_drewN | apply below_drew1) | exact HB.out)))); have n2_ := Aside0.mk (below_step (by repeat (first | (with_reducible first | exact HB.out | apply below_alloc | apply pw_below_drewN | apply below_drew1) | exact HB.out)) hb); clear HO309; clear HB; have HO309 := n0_; have HO312 := n1_; have HB := n2_; clear n0_ n1_ n2_; (try clear hb); (try clear hb2); (try clear hk); (try clear hi); (try clear ho0); obtain ⟨Ao13, co13, eo13⟩ := Kd.R_slice HO312.out; subst eo13) | ((with_reducible refine gate_callee (f := 54) rfl ?_); refine goesL_ (some 10) rfl rfl Tryd.func54 (by kernel_rfl) rfl #[.slice Ao13 t310.length co13] rfl (by (try simp only [List.map_toArray, List.map_cons, List.map_nil]); first | done | rfl | (simp only [List.length_drop, List.length_take]; rfl)) ?_; (with_reducible refine (spec_RubyTrim.calls k _ _ t310 t313 _ ?side1 ?side2 A5.out).mono ?_); (case side1 => repeat (first | exact (Kd.R_reads' HO312.out).2.2 | (with_reducible refine Kd.C_alloc ?_ _) | (with_reducible refine Kd.C_drewN ?_ _) | (with_reducible refine Kd.C_drew ?_))); (case side2 => exact (Kd.R_reads' HO312.out).2.1); rintro e w14 ⟨v314, rfl, ho0, hb⟩; refine ⟨_, rfl, ?_⟩; have n0_ := Aside0.mk (Kd.R_elder' (by (with_reducible repeat (first | apply Kd.R_alloc | apply Kd.R_drewN | apply Kd.R_drew)); exact HO309.out) (Kd.R_base ho0) hb); have n1_ := Aside0.mk (Kd.R_elder' (by (with_reducible repeat (first | apply Kd.R_alloc | apply Kd.R_drewN | apply Kd.R_drew)); exact HO312.out) (Kd.R_base ho0) hb); have n2_ := Aside0.mk (Kd.R_lower (Kd.R_new' (Kd.R_new' ho0 (Kd.R_lt (by (with_reducible repeat (first | apply Kd.R_alloc | apply Kd.R_drewN | apply Kd.R_drew)); exact HO309.out))) (Kd.R_lt (by (with_reducible repeat (first | apply Kd.R_alloc | apply Kd.R_drewN | apply Kd.R_drew)); exact HO312.out))) (below_size (by repeat (first | (with_reducible first | exact HB.out | apply below_alloc | apply pw_below_drewN | apply below_drew1) | exact HB.out)))); have n3_ := Aside0.mk (below_step (by repeat (first | (with_reducible first | exact HB.out | apply below_alloc | apply pw_below_drewN | apply below_drew1) | exact HB.out)) hb); clear HO309; clear HO312; clear HB; have HO309 := n0_; have HO312 := n1_; have HO315 := n2_; have HB := n3_; clear n0_ n1_ n2_ n3_; (try clear hb); (try clear hb2); (try clear hk); (try clear hi); (try clear ho0)) | ((with_reducible refine gate_callee (f := 60) rfl ?_); refine goesL_ (some 12) rfl rfl Tryd.func60 (by kernel_rfl) rfl #[.string a1] rfl (by (try simp only [List.map_toArray, List.map_cons, List.map_nil]); first | done | rfl | (simp only [List.length_drop, List.length_take]; rfl)) ?_; (with_reducible refine (spec_gemRuns.calls k a1 t316 _ A6.out).mono ?_); rintro e w15 ⟨v317, rfl, ho0, hb⟩; refine ⟨_, rfl, ?_⟩; have n0_ := Aside0.mk (Kd.R_elder' (by (with_reducible repeat (first | apply Kd.R_alloc | apply Kd.R_drewN | apply Kd.R_drew)); exact HO309.out) (Kd.R_base ho0) hb); have n1_ := Aside0.mk (Kd.R_elder' (by (with_reducible repeat (first | apply Kd.R_alloc | apply Kd.R_drewN | apply Kd.R_drew)); exact HO312.out) (Kd.R_base ho0) hb); have n2_ := Aside0.mk (Kd.R_elder' (by (with_reducible repeat (first | apply Kd.R_alloc | apply Kd.R_drewN | apply Kd.R_drew)); exact HO315.out) (Kd.R_base ho0) hb); have n3_ := Aside0.mk (Kd.R_lower (Kd.R_new' (Kd.R_new' (Kd.R_new' ho0 (Kd.R_lt (by (with_reducible repeat (first | apply Kd.R_alloc | apply Kd.R_drewN | apply Kd.R_drew)); exact HO309.out))) (Kd.R_lt (by (with_reducible repeat (first | apply Kd.R_alloc | apply Kd.R_drewN | apply Kd.R_drew)); exact HO312.out))) (Kd.R_lt (by (with_reducible repeat (first | apply Kd.R_alloc | apply Kd.R_drewN | apply Kd.R_drew)); exact HO315.out))) (below_size (by repeat (first | (with_reducible first | exact HB.out | apply below_alloc | apply pw_below_drewN | apply below_drew1) | exact HB.out)))); have n4_ := Aside0.mk (below_step (by repeat (first | (with_reducible first | exact HB.out | apply below_alloc | apply pw_below_drewN | apply below_drew1) | exact HB.out)) hb); clear HO309; clear HO312; clear HO315; clear HB; have HO309 := n0_; have HO312 := n1_; have HO315 := n2_; have HO318 := n3_; have HB := n4_; clear n0_ n1_ n2_ n3_ n4_; (try clear hb); (try clear hb2); (try clear hk); (try clear hi); (try clear ho0); obtain ⟨Ao16, co16, eo16⟩ := Kd.R_slice HO318.out; subst eo16) | ((with_reducible refine gate_callee (f := 59) rfl ?_); refine goesL_ (some 13) rfl rfl Tryd.func59 (by kernel_rfl) rfl #[.slice Ao16 t316.length co16] rfl (by (try simp only [List.map_toArray, List.map_cons, List.map_nil]); first | done | rfl | (simp only [List.length_drop, List.length_take]; rfl)) ?_; (with_reducible refine (spec_gemFirst.calls k _ _ t316 t319 _ ?side1 ?side2 A7.out).mono ?_); (case side1 => repeat (first | exact (Kd.R_reads' HO318.out).2.2 | (with_reducible refine Kd.C_alloc ?_ _) | (with_reducible refine Kd.C_drewN ?_ _) | (with_reducible refine Kd.C_drew ?_))); (case side2 => exact (Kd.R_reads' HO318.out).2.1); rintro e w17 ⟨v320, rfl, ho0, hb⟩; refine ⟨_, rfl, ?_⟩; have n0_ := Aside0.mk (Kd.R_elder' (by (with_reducible repeat (first | apply Kd.R_alloc | apply Kd.R_drewN | apply Kd.R_drew)); exact HO309.out) (Kd.R_base ho0) hb); have n1_ := Aside0.mk (Kd.R_elder' (by (with_reducible repeat (first | apply Kd.R_alloc | apply Kd.R_drewN | apply Kd.R_drew)); exact HO312.out) (Kd.R_base ho0) hb); have n2_ := Aside0.mk (Kd.R_elder' (by (with_reducible repeat (first | apply Kd.R_alloc | apply Kd.R_drewN | apply Kd.R_drew)); exact HO315.out) (Kd.R_base ho0) hb); have n3_ := Aside0.mk (Kd.R_elder' (by (with_reducible repeat (first | apply Kd.R_alloc | apply Kd.R_drewN | apply Kd.R_drew)); exact HO318.out) (Kd.R_base ho0) hb); have n4_ := Aside0.mk (Kd.R_lower (Kd.R_new' (Kd.R_new' (Kd.R_new' (Kd.R_new' ho0 (Kd.R_lt (by (with_reducible repeat (first | apply Kd.R_alloc | apply Kd.R_drewN | apply Kd.R_drew)); exact HO309.out))) (Kd.R_lt (by (with_reducible repeat (first | apply Kd.R_alloc | apply Kd.R_drewN | apply Kd.R_drew)); exact HO312.out))) (Kd.R_lt (by (with_reducible repeat (first | apply Kd.R_alloc | apply Kd.R_drewN | apply Kd.R_drew)); exact HO315.out))) (Kd.R_lt (by (with_reducible repeat (first | apply Kd.R_alloc | apply Kd.R_drewN | apply Kd.R_drew)); exact HO318.out))) (below_size (by repeat (first | (with_reducible first | exact HB.out | apply below_alloc | apply pw_below_drewN | apply below_drew1) | exact HB.out)))); have n5_ := Aside0.mk (below_step (by repeat (first | (with_reducible first | exact HB.out | apply below_alloc | apply pw_below_drewN | apply below_drew1) | exact HB.out)) hb); clear HO309; clear HO312; clear HO315; clear HO318; clear HB; have HO309 := n0_; have HO312 := n1_; have HO315 := n2_; have HO318 := n3_; have HO321 := n4_; have HB := n5_; clear n0_ n1_ n2_ n3_ n4_ n5_; (try clear hb); (try clear hb2); (try clear hk); (try clear hi); (try clear ho0); obtain ⟨Ao18, co18, eo18⟩ := Kd.R_slice HO321.out; subst eo18) | ((with_reducible refine gate_callee (f := 54) rfl ?_); refine goesL_ (some 14) rfl rfl Tryd.func54 (by kernel_rfl) rfl #[.slice Ao18 t319.length co18] rfl (by (try simp only [List.map_toArray, List.map_cons, List.map_nil]); first | done | rfl | (simp only [List.length_drop, List.length_take]; rfl)) ?_; (with_reducible refine (spec_RubyTrim.calls k _ _ t319 t322 _ ?side1 ?side2 A8.out).mono ?_); (case side1 => repeat (first | exact (Kd.R_reads' HO321.out).2.2 | (with_reducible refine Kd.C_alloc ?_ _) | (with_reducible refine Kd.C_drewN ?_ _) | (with_reducible refine Kd.C_drew ?_))); (case side2 => exact (Kd.R_reads' HO321.out).2.1); rintro e w19 ⟨v323, rfl, ho0, hb⟩; refine ⟨_, rfl, ?_⟩; have n0_ := Aside0.mk (Kd.R_elder' (by (with_reducible repeat (first | apply Kd.R_alloc | apply Kd.R_drewN | apply Kd.R_drew)); exact HO309.out) (Kd.R_base ho0) hb); have n1_ := Aside0.mk (Kd.R_elder' (by (with_reducible repeat (first | apply Kd.R_alloc | apply Kd.R_drewN | apply Kd.R_drew)); exact HO312.out) (Kd.R_base ho0) hb); have n2_ := Aside0.mk (Kd.R_elder' (by (with_reducible repeat (first | apply Kd.R_alloc | apply Kd.R_drewN | apply Kd.R_drew)); exact HO315.out) (Kd.R_base ho0) hb); have n3_ := Aside0.mk (Kd.R_elder' (by (with_reducible repeat (first | apply Kd.R_alloc | apply Kd.R_drewN | apply Kd.R_drew)); exact HO318.out) (Kd.R_base ho0) hb); have n4_ := Aside0.mk (Kd.R_elder' (by (with_reducible repeat (first | apply Kd.R_alloc | apply Kd.R_drewN | apply Kd.R_drew)); exact HO321.out) (Kd.R_base ho0) hb); have n5_ := Aside0.mk (Kd.R_lower (Kd.R_new' (Kd.R_new' (Kd.R_new' (Kd.R_new' (Kd.R_new' ho0 (Kd.R_lt (by (with_reducible repeat (first | apply Kd.R_alloc | apply Kd.R_drewN | apply Kd.R_drew)); exact HO309.out))) (Kd.R_lt (by (with_reducible repeat (first | apply Kd.R_alloc | apply Kd.R_drewN | apply Kd.R_drew)); exact HO312.out))) (Kd.R_lt (by (with_reducible repeat (first | apply Kd.R_alloc | apply Kd.R_drewN | apply Kd.R_drew)); exact HO315.out))) (Kd.R_lt (by (with_reducible repeat (first | apply Kd.R_alloc | apply Kd.R_drewN | apply Kd.R_drew)); exact HO318.out))) (Kd.R_lt (by (with_reducible repeat (first | apply Kd.R_alloc | apply Kd.R_drewN | apply Kd.R_drew)); exact HO321.out))) (below_size (by repeat (first | (with_reducible first | exact HB.out | apply below_alloc | apply pw_below_drewN | apply below_drew1) | exact HB.out)))); have n6_ := Aside0.mk (below_step (by repeat (first | (with_reducible first | exact HB.out | apply below_alloc | apply pw_below_drewN | apply below_drew1) | exact HB.out)) hb); clear HO309; clear HO312; clear HO315; clear HO318; clear HO321; clear HB; have HO309 := n0_; have HO312 := n1_; have HO315 := n2_; have HO318 := n3_; have HO321 := n4_; have HO324 := n5_; have HB := n6_; clear n0_ n1_ n2_ n3_ n4_ n5_ n6_; (try clear hb); (try clear hb2); (try clear hk); (try clear hi); (try clear ho0); obtain ⟨Ao20, co20, eo20⟩ := Kd.R_slice HO315.out; subst eo20; obtain ⟨Ao21, co21, eo21⟩ := Kd.R_slice HO324.out; subst eo21) | ((with_reducible refine gate_callee (f := 22) rfl ?_); refine goesL_ (some 17) rfl rfl Tryd.func22 (by kernel_rfl) rfl #[.slice Ao20 t313.length co20, .slice Ao21 t322.length co21] rfl (by (try simp only [List.map_toArray, List.map_cons, List.map_nil]); first | done | rfl | (simp only [List.length_drop, List.length_take]; rfl)) ?_; (with_reducible refine (spec_RubySegments.calls k _ _ t313 _ _ t322 t325 _ ?side1 ?side2 ?side3 ?side4 A9.out).mono ?_); (case side1 => repeat (first | exact (Kd.R_reads' HO315.out).2.2 | (with_reducible refine Kd.C_alloc ?_ _) | (with_reducible refine Kd.C_drewN ?_ _) | (with_reducible refine Kd.C_drew ?_))); (case side2 => exact (Kd.R_reads' HO315.out).2.1); (case side3 => repeat (first | exact (Kd.R_reads' HO324.out).2.2 | (with_reducible refine Kd.C_alloc ?_ _) | (with_reducible refine Kd.C_drewN ?_ _) | (with_reducible refine Kd.C_drew ?_))); (case side4 => exact (Kd.R_reads' HO324.out).2.1); rintro e w' ⟨rfl, ⟨nd, rfl⟩⟩; refine ⟨_, rfl, ?_⟩))
  go_ret
  exact ⟨by first | rfl | (simp [errW_none, errW_some] <;> rfl) | (simp [*, errW_none, errW_some] <;> rfl) | (simp [bne_nil_]; done), by repeat (first | (with_reducible first | exact HB.out | apply below_alloc | apply pw_below_drewN | apply below_drew1) | exact HB.out)⟩

-- NOT PRINTED: function 9 (laws_FnGem)

end Go.Proofs.YtfgechefinijbaaDoor.QG
