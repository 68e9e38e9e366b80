-- Written by a working copy of the kit's print program, turned at a few places by wip/tool/mkprint.py. Lean checks it.
import Derived.Test.YtojabknjniihmaaQSx0
import Derived.Test.YtojabknjniihmaaQSx3
namespace Go.Proofs.Ytojabknjniihmaa.QS
open Go.RowKit Go.Proofs.YtojabknjniihmaaW.PrintWords Go.Proofs.YtojabknjniihmaaW.PrintLast Go.Proofs.YtojabknjniihmaaW.PrintMore
attribute [local go_sem] max2_int min2_int max_two min_two max_three min_three max_four min_four   -- for this text's walks alone
set_option linter.unusedVariables false
set_option linter.unusedSimpArgs false

/-! ### spec_SplitInclusive: function 18 -/
def spec_SplitInclusive.l0 : Nat → ByteArray → ByteArray → List ByteArray → Int → Int → Option (List ByteArray)
  | 0, _, _, _, _, _ => none
  | k + 1, x0, x1, x5, x6, x7 => if x7 < (x0.size : Int) then (if 0 ≤ x7 then ((spec_mavenHas.f k x1 (bt x0 x7)).bind fun t123 => (if t123 = true then (if 0 ≤ x6 then (if x6 ≤ x7 then (if x7 ≤ (x0.size : Int) then (if x7 ≤ (wrap64 (x7 + 1)) then (if (wrap64 (x7 + 1)) ≤ (x0.size : Int) then ((some (([x0.extract (x6 : Int).toNat (x7 : Int).toNat, x0.extract (x7 : Int).toNat ((wrap64 (x7 + 1)) : Int).toNat] : List ByteArray) : List ByteArray)).bind fun y124 => (if x5.length + y124.length < 8796093022208 then (spec_SplitInclusive.l0 k x0 x1 (x5 ++ y124) (wrap64 (x7 + 1)) (wrap64 (x7 + 1))) else (none))) else (none)) else (none)) else (none)) else (none)) else (none)) else (spec_SplitInclusive.l0 k x0 x1 x5 x6 (wrap64 (x7 + 1))))) else (none)) else (if 0 ≤ x6 then (if x6 ≤ (x0.size : Int) then (if x5.length < 8796093022208 then (some (x5 ++ [x0.extract (x6 : Int).toNat x0.size])) else (none)) else (none)) else (none))
def spec_SplitInclusive.f (k : Nat) (a0 : ByteArray) (a1 : ByteArray) : Option (List ByteArray) := spec_SplitInclusive.l0 k a0 a1 ([] : List ByteArray) 0 0
theorem spec_SplitInclusive.mono_l : ∀ k, (∀ y0 y1 y2 y3 y4, LeO (spec_SplitInclusive.l0 k y0 y1 y2 y3 y4) (spec_SplitInclusive.l0 (k + 1) y0 y1 y2 y3 y4))
  | 0 => fun _ _ _ _ _ r h => by simp [spec_SplitInclusive.l0] at h
  | k + 1 => by
    have ih0 := spec_SplitInclusive.mono_l k
    · intro y0 y1 y2 y3 y4
      unfold spec_SplitInclusive.l0
      repeat' first
      | (with_reducible exact ih0 _ _ _ _ _)
      | (with_reducible exact spec_mavenHas.mono _ _ _)
      | (with_reducible exact LeO.refl _)
      | (with_reducible exact LeO.none _)
      | (with_reducible refine LeO.ite ?_ ?_)
      | (with_reducible refine LeO.bind ?_ (fun _ => ?_))
      | exact ih0 _ _ _ _ _
      | exact spec_mavenHas.mono _ _ _
      | exact LeO.none _
      | refine LeO.ite ?_ ?_
      | refine LeO.bind ?_ (fun _ => ?_)
theorem spec_SplitInclusive.mono : ∀ a0 a1 k, LeO (spec_SplitInclusive.f k a0 a1) (spec_SplitInclusive.f (k + 1) a0 a1) := by
  intro a0 a1 k
  have ih0 := spec_SplitInclusive.mono_l k
  unfold spec_SplitInclusive.f
  repeat' first
      | (with_reducible exact ih0 _ _ _ _ _)
      | (with_reducible exact spec_mavenHas.mono _ _ _)
      | (with_reducible exact LeO.refl _)
      | (with_reducible exact LeO.none _)
      | (with_reducible refine LeO.ite ?_ ?_)
      | (with_reducible refine LeO.bind ?_ (fun _ => ?_))
      | exact ih0 _ _ _ _ _
      | exact spec_mavenHas.mono _ _ _
      | exact LeO.none _
      | refine LeO.ite ?_ ?_
      | refine LeO.bind ?_ (fun _ => ?_)
def spec_SplitInclusive.T7 : Bool × List (List Nat × List Nat) := (true, [([], []), ([], []), ([], []), ([], []), ([1, 2, 3], [1, 2, 3]), ([], []), ([], []), ([], []), ([7], [7]), ([5, 6, 8], [5, 6, 8]), ([4, 9], [4, 9]), ([0, 10], [0, 10]), ([11, 11, 0, 1, 2, 3, 4, 5, 6, 7, 8, 9, 10, 11], [0, 11])])
def spec_SplitInclusive.B7 : List Nat := [0, 0, 0, 0, 14, 0, 0, 0, 128, 480, 1022, 2047, 4095]
theorem spec_SplitInclusive.tab7 : rtab .any (opsOf Try.f18 7) = spec_SplitInclusive.T7 := by kernel_rfl
theorem spec_SplitInclusive.bits7 : waitsOk spec_SplitInclusive.T7.2 spec_SplitInclusive.B7 = true := by kernel_rfl
set_option maxHeartbeats 8000000 in
set_option maxRecDepth 100000 in
theorem spec_SplitInclusive.calls (k : Nat) (a0 : ByteArray) (a1 : ByteArray) (r : List ByteArray) (w : World) (h : spec_SplitInclusive.f k a0 a1 = some r) :
    Calls Try.prog 18 #[.string a0, .string a1] w fun e w' => ∃ v0_ : Value, e = .returned (v0_) ∧ Kd.R Kd.string 9 w' w.heap.size (fun _ => True) v0_ r ∧ Below w.heap.size w w' := by
  have HB := Aside0.mk (Below.refl w.heap.size w)
  have H : (spec_SplitInclusive.l0 k a0 a1 ([] : List ByteArray) 0 0) = some r := h
  clear h
  have H' := Aside0.mk H
  clear H
  go_enter Try.func18, Try.ntmps18
  go_wp2
  go_loopg [5, 6, 7] k (fun kq v5 v6 v7 w' => ∃ (x5_1 : List ByteArray) (x6_1 : Int) (x7_1 : Int), v6 = .int .i64 x6_1 ∧ v7 = .int .i64 x7_1 ∧ Aside0 (spec_SplitInclusive.l0 kq a0 a1 x5_1 x6_1 x7_1 = some r) ∧ Aside0 (kq ≤ k) ∧ Aside0 (Kd.R Kd.string 9 w' w.heap.size (fun _ => True) v5 x5_1) ∧ Aside0 (Below w.heap.size w w'))
  case atStart => exact ⟨(([] : List ByteArray)), (0), (0), (by first | rfl | (simp; done) | (simp [*]; done) | (simp [bne_nil_]; done)), (by first | rfl | (simp; done) | (simp [*]; done) | (simp [bne_nil_]; done)), H', ⟨Nat.le_refl _⟩, ⟨by first | exact Kd.R_nil _ _ _ _ _ | exact Kd.N_nil _ _ _ _ _ | exact Kd.V_nil _ _ _ _ _ | exact Kd.Q_nil _ _ _ _ _ | exact Kd.S_nil _ _ _ _ _⟩, ⟨by repeat (first | (with_reducible first | exact HB.out | apply below_alloc | apply pw_below_drewN | apply below_drew1) | exact HB.out)⟩⟩
  case round =>
    clear H'
    try clear c1
    try clear p2
    obtain ⟨x5_1, x6_1, x7_1, rfl, rfl, HA, HK1, HO_5, HB⟩ := hrel
    cases gk with
    | zero => exact absurd HA.out (by simp [spec_SplitInclusive.l0])
    | succ k1 =>
      have H := HA.out
      clear HA
      simp only [spec_SplitInclusive.l0] at H
      by_cases c3 : x7_1 < (a0.size : Int)
      · rw [if_pos c3] at H
        have c3b0 : decide (x7_1 < (a0.size : Int)) = true := decide_eq_true c3
        clear c3
        by_cases c4 : 0 ≤ x7_1
        · rw [if_pos c4] at H
          have c4b0 : decide (0 ≤ x7_1) = true := decide_eq_true c4
          clear c4
          replace H := Option.bind_eq_some_iff.mp H
          obtain ⟨t123, A60, H⟩ := H
          replace H : (if t123 = true then (if 0 ≤ x6_1 then (if x6_1 ≤ x7_1 then (if x7_1 ≤ (a0.size : Int) then (if x7_1 ≤ (wrap64 (x7_1 + 1)) then (if (wrap64 (x7_1 + 1)) ≤ (a0.size : Int) then ((some (([a0.extract (x6_1 : Int).toNat (x7_1 : Int).toNat, a0.extract (x7_1 : Int).toNat ((wrap64 (x7_1 + 1)) : Int).toNat] : List ByteArray) : List ByteArray)).bind fun y124 => (if x5_1.length + y124.length < 8796093022208 then (spec_SplitInclusive.l0 k1 a0 a1 (x5_1 ++ y124) (wrap64 (x7_1 + 1)) (wrap64 (x7_1 + 1))) else (none))) else (none)) else (none)) else (none)) else (none)) else (none)) else (spec_SplitInclusive.l0 k1 a0 a1 x5_1 x6_1 (wrap64 (x7_1 + 1)))) = some r := H
          have A6 := Aside0.mk A60
          clear A60
          by_cases c7 : t123 = true
          · subst c7
            have H1 : (if 0 ≤ x6_1 then (if x6_1 ≤ x7_1 then (if x7_1 ≤ (a0.size : Int) then (if x7_1 ≤ (wrap64 (x7_1 + 1)) then (if (wrap64 (x7_1 + 1)) ≤ (a0.size : Int) then ((some (([a0.extract (x6_1 : Int).toNat (x7_1 : Int).toNat, a0.extract (x7_1 : Int).toNat ((wrap64 (x7_1 + 1)) : Int).toNat] : List ByteArray) : List ByteArray)).bind fun y124 => (if x5_1.length + y124.length < 8796093022208 then (spec_SplitInclusive.l0 k1 a0 a1 (x5_1 ++ y124) (wrap64 (x7_1 + 1)) (wrap64 (x7_1 + 1))) else (none))) else (none)) else (none)) else (none)) else (none)) else (none)) = some r := by rw [if_pos rfl] at H; exact H
            clear H
            have H := H1
            clear H1
            by_cases c8 : 0 ≤ x6_1
            · rw [if_pos c8] at H
              have c8b0 := eq_true c8
              have c8b1 : decide (0 ≤ x6_1) = true := decide_eq_true c8
              clear c8
              by_cases c9 : x6_1 ≤ x7_1
              · rw [if_pos c9] at H
                have c9b0 := eq_true c9
                have c9b1 : decide (x6_1 ≤ x7_1) = true := decide_eq_true c9
                clear c9
                by_cases c10 : x7_1 ≤ (a0.size : Int)
                · rw [if_pos c10] at H
                  have c10b0 := eq_true c10
                  have c10b1 : decide (x7_1 ≤ (a0.size : Int)) = true := decide_eq_true c10
                  clear c10
                  have c11b0 := eq_true (of_decide_eq_true (by first | (with_reducible assumption) | assumption) : 0 ≤ x7_1)
                  by_cases c12 : x7_1 ≤ (wrap64 (x7_1 + 1))
                  · rw [if_pos c12] at H
                    have c12b0 := eq_true c12
                    have c12b1 : decide (x7_1 ≤ (wrap64 (x7_1 + 1))) = true := decide_eq_true c12
                    by_cases c13 : (wrap64 (x7_1 + 1)) ≤ (a0.size : Int)
                    · rw [if_pos c13] at H
                      have c13b0 := eq_true c13
                      have c13b1 : decide ((wrap64 (x7_1 + 1)) ≤ (a0.size : Int)) = true := decide_eq_true c13
                      obtain ⟨y124, hy124⟩ : ∃ y_ : List ByteArray, y_ = (([a0.extract (x6_1 : Int).toNat (x7_1 : Int).toNat, a0.extract (x7_1 : Int).toNat ((wrap64 (x7_1 + 1)) : Int).toNat] : List ByteArray)) := ⟨_, rfl⟩
                      replace H : (if x5_1.length + y124.length < 8796093022208 then (spec_SplitInclusive.l0 k1 a0 a1 (x5_1 ++ y124) (wrap64 (x7_1 + 1)) (wrap64 (x7_1 + 1))) else (none)) = some r := by first | (rw [hy124]; with_reducible exact H) | (have H2_ := (Option.bind_some _ _).symm.trans H; rw [hy124]; with_reducible exact H2_) | (have H2_ := (Option.bind_some _ _).symm.trans H; with_reducible exact H2_) | with_reducible exact H | (rw [hy124]; exact H) | exact H
                      have Ny124 := Aside0.mk hy124
                      clear hy124
                      by_cases c14 : x5_1.length + y124.length < 8796093022208
                      · rw [if_pos c14] at H
                        have LMc14 := Aside0.mk c14
                        clear c14
                        obtain ⟨y127, hy127⟩ : ∃ y_ : List ByteArray, y_ = (x5_1 ++ y124) := ⟨_, rfl⟩
                        replace H : (spec_SplitInclusive.l0 k1 a0 a1 y127 (wrap64 (x7_1 + 1)) (wrap64 (x7_1 + 1))) = some r := by first | (rw [hy127]; with_reducible exact H) | (have H2_ := (Option.bind_some _ _).symm.trans H; rw [hy127]; with_reducible exact H2_) | (have H2_ := (Option.bind_some _ _).symm.trans H; with_reducible exact H2_) | with_reducible exact H | (rw [hy127]; exact H) | exact H
                        have Ny127 := Aside0.mk hy127
                        clear hy127
                        have H' := Aside0.mk H
                        clear H
                        have p5 : 0 ≤ (x7_1 : Int) := of_decide_eq_true (by first | (with_reducible assumption) | assumption)
                        have q5 : x7_1 < (a0.size : Int) := of_decide_eq_true (by first | (with_reducible assumption) | assumption)
                        have hx5 := bt_at a0 x7_1
                        replace p5 := eq_true p5
                        replace q5 := eq_true q5
                        try go_wp2_with (first | ((with_reducible refine gate_callee (f := 31) rfl ?_); refine goesL_ (some 18) rfl rfl Try.func31 (by kernel_rfl) rfl #[.string a1, .int .u8 (bt a0 x7_1)] rfl (by (try simp only [List.map_toArray, List.map_cons, List.map_nil]); first | done | rfl | (simp only [List.length_drop, List.length_take]; rfl)) ?_; (with_reducible refine (spec_mavenHas.calls k1 a1 (bt a0 x7_1) true _ A6.out).mono ?_); rintro e w' ⟨rfl, ⟨nd, rfl⟩⟩; refine ⟨_, rfl, ?_⟩))
                        (try (rw [drewN_self wr]; generalize hq_ : World.drewN wr _ = wr; have n0_ : Aside0 (Kd.R Kd.string 9 wr w.heap.size (fun _ => True) u5 x5_1) := ⟨by rw [← hq_]; exact (by (with_reducible repeat (first | apply Kd.R_alloc | apply Kd.R_drewN | apply Kd.R_drew)); exact HO_5.out)⟩; have n1_ : Aside0 (Below w.heap.size w wr) := ⟨by rw [← hq_]; exact (by repeat (first | (with_reducible first | exact HB.out | apply below_alloc | apply pw_below_drewN | apply below_drew1) | exact HB.out))⟩; clear HO_5 HB hq_; have HO_5 := n0_; have HB := n1_; clear n0_ n1_))
                        have n0_ := Aside0.mk (Kd.R_drew HO_5.out)
                        have n1_ := Aside0.mk (below_drew1 HB.out)
                        clear HO_5
                        clear HB
                        have HO_5 := n0_
                        have HB := n1_
                        clear n0_ n1_
                        refine start_ (n := 13) (S := fun w' => True) (ds := []) #[false, false, false, false, false, false, false, false, false, false, false, false, false] (by kernel_rfl) rfl rfl trivial (fun hHeld => ?_); refine with_tabW spec_SplitInclusive.tab7 spec_SplitInclusive.bits7 (fun HT_ HW_ => ?_)
                        generalize wr.drew = w15 at HO_5 HB hHeld ⊢
                        refine pure_ (i := 0) (N := some 19) (v := ?_) (a' := ?_) #[true, false, false, false, false, false, false, false, false, false, false, false, false] rfl rfl (any_of HT_.out (by kernel_rfl)) (fun _ _ _ h => h) (Or.inl ⟨by rfl, ?_⟩) ?_ ?_
                        rotate_left
                        · intro w'
                          go_simp
                          with_reducible rfl
                        rotate_left
                        · simp only [Act.put, List.setIfInBounds_toArray, List.set_cons_zero, List.set_cons_succ, i64_w, i32_w]
                          rfl
                        refine pure_ (i := 1) (N := some 20) (v := ?_) (a' := ?_) #[true, true, false, false, false, false, false, false, false, false, false, false, false] rfl rfl (any_of HT_.out (by kernel_rfl)) (fun _ _ _ h => h) (Or.inl ⟨by rfl, ?_⟩) ?_ ?_
                        rotate_left
                        · intro w'
                          go_simp
                          with_reducible rfl
                        rotate_left
                        · simp only [Act.put, List.setIfInBounds_toArray, List.set_cons_zero, List.set_cons_succ, i64_w, i32_w]
                          rfl
                        refine pure_ (i := 2) (N := some 21) (v := ?_) (a' := ?_) #[true, true, true, false, false, false, false, false, false, false, false, false, false] rfl rfl (any_of HT_.out (by kernel_rfl)) (fun _ _ _ h => h) (Or.inl ⟨by rfl, ?_⟩) ?_ ?_
                        rotate_left
                        · intro w'
                          go_simp
                          with_reducible rfl
                        rotate_left
                        · simp only [Act.put, List.setIfInBounds_toArray, List.set_cons_zero, List.set_cons_succ, i64_w, i32_w]
                          rfl
                        refine pure_ (i := 3) (N := some 22) (v := ?_) (a' := ?_) #[true, true, true, true, false, false, false, false, false, false, false, false, false] rfl rfl (any_of HT_.out (by kernel_rfl)) (fun _ _ _ h => h) (Or.inl ⟨by rfl, ?_⟩) ?_ ?_
                        rotate_left
                        · intro w'
                          go_simp
                          with_reducible rfl
                        rotate_left
                        · simp only [Act.put, List.setIfInBounds_toArray, List.set_cons_zero, List.set_cons_succ, i64_w, i32_w]
                          rfl
                        refine pure_ (i := 4) (N := some 23) (v := ?_) (a' := ?_) #[true, true, true, true, true, false, false, false, false, false, false, false, false] rfl rfl (any_of HT_.out (by kernel_rfl)) (fun _ _ _ h => h) (Or.inl ⟨by rfl, ?_⟩) ?_ ?_
                        rotate_left
                        · intro w'
                          go_simp
                          with_reducible rfl
                        rotate_left
                        · simp only [Act.put, List.setIfInBounds_toArray, List.set_cons_zero, List.set_cons_succ, i64_w, i32_w]
                          rfl
                        refine pure_ (i := 5) (N := some 24) (v := ?_) (a' := ?_) #[true, true, true, true, true, true, false, false, false, false, false, false, false] rfl rfl (any_of HT_.out (by kernel_rfl)) (fun _ _ _ h => h) (Or.inl ⟨by rfl, ?_⟩) ?_ ?_
                        rotate_left
                        · intro w'
                          go_simp
                          with_reducible rfl
                        rotate_left
                        · simp only [Act.put, List.setIfInBounds_toArray, List.set_cons_zero, List.set_cons_succ, i64_w, i32_w]
                          rfl
                        refine pure_ (i := 6) (N := some 25) (v := ?_) (a' := ?_) #[true, true, true, true, true, true, true, false, false, false, false, false, false] rfl rfl (any_of HT_.out (by kernel_rfl)) (fun _ _ _ h => h) (Or.inl ⟨by rfl, ?_⟩) ?_ ?_
                        rotate_left
                        · intro w'
                          go_simp
                          with_reducible rfl
                        rotate_left
                        · simp only [Act.put, List.setIfInBounds_toArray, List.set_cons_zero, List.set_cons_succ, i64_w, i32_w]
                          rfl
                        refine pure_ (i := 7) (N := some 26) (v := ?_) (a' := ?_) #[true, true, true, true, true, true, true, true, false, false, false, false, false] rfl rfl (any_of HT_.out (by kernel_rfl)) (fun _ _ _ h => h) (Or.inl ⟨by rfl, ?_⟩) ?_ ?_
                        rotate_left
                        · intro w'
                          go_simp
                          with_reducible rfl
                        rotate_left
                        · simp only [Act.put, List.setIfInBounds_toArray, List.set_cons_zero, List.set_cons_succ, i64_w, i32_w]
                          rfl
                        refine pure_ (i := 8) (N := some 27) (v := ?_) (a' := ?_) #[true, true, true, true, true, true, true, true, true, false, false, false, false] rfl rfl (any_of HT_.out (by kernel_rfl)) (fun _ _ _ h => h) (Or.inl ⟨by rfl, ?_⟩) ?_ ?_
                        rotate_left
                        · intro w'
                          go_simp
                          with_reducible rfl
                        rotate_left
                        · simp only [Act.put, List.setIfInBounds_toArray, List.set_cons_zero, List.set_cons_succ, i64_w, i32_w]
                          rfl
                        refine pure_ (i := 9) (N := some 28) (v := ?_) (a' := ?_) #[true, true, true, true, true, true, true, true, true, true, false, false, false] rfl rfl (any_of HT_.out (by kernel_rfl)) (fun _ _ _ h => h) (Or.inl ⟨by rfl, ?_⟩) ?_ ?_
                        rotate_left
                        · intro w'
                          go_simp
                          with_reducible rfl
                        rotate_left
                        · simp only [Act.put, List.setIfInBounds_toArray, List.set_cons_zero, List.set_cons_succ, i64_w, i32_w]
                          rfl
                        refine one_ (i := 10) (N := some 29) #[true, true, true, true, true, true, true, true, true, true, true, false, false] rfl rfl (one_of HT_.out (by kernel_rfl)) (by decide) (fun K hK => ?_)
                        refine Kd.R_lit_step Kd.string _ 9 ?hg (N := 29) ?hd (xs := ([a0.extract (x6_1 : Int).toNat (x7_1 : Int).toNat, a0.extract (x7_1 : Int).toNat ((wrap64 (x7_1 + 1)) : Int).toNat] : List ByteArray)) (inner := [.string (a0.extract (x6_1 : Int).toNat (x7_1 : Int).toNat), .string (a0.extract (x7_1 : Int).toNat ((wrap64 (x7_1 + 1)) : Int).toNat)]) (ok := fun _ => True) (okp := fun _ => True) ?hr ?hp (fun _ hk => hk) trivial (Below.refl _ _) (Nat.le_refl _) (by simp) ?_; (case hd => rfl); (case hg => rfl); (case hr => first | (go_simp; done) | (go_simp; rfl)); (case hp => exact (Reps.one (show Kd.M Kd.string _ _ _ (a0.extract (x6_1 : Int).toNat (x7_1 : Int).toNat) [.string (a0.extract (x6_1 : Int).toNat (x7_1 : Int).toNat)] from rfl) (Reps.one (show Kd.M Kd.string _ _ _ (a0.extract (x7_1 : Int).toNat ((wrap64 (x7_1 + 1)) : Int).toNat) [.string (a0.extract (x7_1 : Int).toNat ((wrap64 (x7_1 + 1)) : Int).toNat)] from rfl) (Reps.none _ _))))
                        intro v125 w16 ho17 hb hg_ hnew_
                        clear hg_ hnew_
                        (first | rw [← Ny124.out] at ho17 | (simp only [Int.reduceToNat] at ho17; rw [← Ny124.out] at ho17))
                        have n0_ := Aside0.mk (Kd.R_elder' (by (with_reducible repeat (first | apply Kd.R_alloc | apply Kd.R_drewN | apply Kd.R_drew)); exact HO_5.out) (Kd.R_base ho17) hb)
                        have n1_ := Aside0.mk (Kd.R_lower (Kd.R_new' ho17 (Kd.R_lt (by (with_reducible repeat (first | apply Kd.R_alloc | apply Kd.R_drewN | apply Kd.R_drew)); exact HO_5.out))) (below_size (by repeat (first | (with_reducible first | exact HB.out | apply below_alloc | apply pw_below_drewN | apply below_drew1) | exact HB.out))))
                        have n2_ := Aside0.mk (below_step (by repeat (first | (with_reducible first | exact HB.out | apply below_alloc | apply pw_below_drewN | apply below_drew1) | exact HB.out)) hb)
                        clear HO_5
                        clear HB
                        have HO_5 := n0_
                        have HO126 := n1_
                        have HB := n2_
                        clear n0_ n1_ n2_
                        clear hb ho17
                        obtain ⟨Ao19, co19, eo19⟩ := Kd.R_slice HO126.out
                        (first | subst eo19 | (injection eo19 with f1_ f2_ f3_; have f4_ := f1_.symm; have f5_ := f3_.symm; clear f1_ f2_ f3_; subst f4_; subst f5_))
                        refine hK.out _ _ trivial (fun hHeld => ?_)
                        clear hK K
                        refine norm_ (a' := ?_) ?_ ?_
                        rotate_left
                        · show Act.put _ (some 29) _ = _
                          simp only [Act.put, List.setIfInBounds_toArray, List.set_cons_zero, List.set_cons_succ, i64_w, i32_w]
                          rfl
                        refine one_ (i := 11) (N := some 30) #[true, true, true, true, true, true, true, true, true, true, true, true, false] rfl rfl (one_of HT_.out (by kernel_rfl)) (by decide) (fun K hK => ?_)
                        refine Kd.R_append_rows_step Kd.string (w0 := w) w.heap.size (by rfl) (.tmp 19) (.tmp 29) 26 9 (.string ⟨#[]⟩) 16 rfl Try.underlying26 info9 rfl (by decide) (by omega) u5 x5_1 y124 _ _ _ (fun k_ => some k_ ≠ (.slice Ao19 y124.length co19 : Value).ownBlock) (fun _ => False) rfl rfl ?aO ?aR (fun _ _ h => h) (fun _ h => h.elim) ?aF ?aB ?aS ?aL ?_
                        (case aR => repeat (first | exact (Kd.R_reads' HO126.out).2.2 | (with_reducible refine Kd.C_alloc ?_ _) | (with_reducible refine Kd.C_drewN ?_ _) | (with_reducible refine Kd.C_drew ?_)))
                        (case aB => exact (by repeat (first | (with_reducible first | exact HB.out | apply below_alloc | apply pw_below_drewN | apply below_drew1) | exact HB.out)))
                        (case aF => exact (fun k_ hk => Kd.fresh' (Kd.R_lt (by (with_reducible repeat (first | apply Kd.R_alloc | apply Kd.R_drewN | apply Kd.R_drew)); exact HO126.out)) k_ hk))
                        (case aO => exact (by (with_reducible repeat (first | apply Kd.R_alloc | apply Kd.R_drewN | apply Kd.R_drew)); exact Kd.R_mono HO_5.out (fun _ hk => hk.2)))
                        (case aS => exact (below_size (by repeat (first | (with_reducible first | exact HB.out | apply below_alloc | apply pw_below_drewN | apply below_drew1) | exact HB.out))))
                        (case aL => have := LMc14.out; omega)
                        intro v128 w18 ho hb hg hat
                        rw [← Ny127.out] at ho
                        have n0_ := Aside0.mk (Kd.R_after (ok := (fun _ => True)) (by (with_reducible repeat (first | apply Kd.R_alloc | apply Kd.R_drewN | apply Kd.R_drew)); exact HO126.out) hg hat)
                        have n1_ := Aside0.mk (hb)
                        have n2_ := Aside0.mk (ho)
                        clear HO126
                        clear HB
                        clear HO_5
                        have HO126 := n0_
                        have HB := n1_
                        have HO129 := n2_
                        clear n0_ n1_ n2_
                        clear ho hb hg hat
                        refine hK.out _ _ trivial (fun hHeld => ?_)
                        clear hK K
                        refine norm_ (a' := ?_) ?_ ?_
                        rotate_left
                        · show Act.put _ (some 30) _ = _
                          simp only [Act.put, List.setIfInBounds_toArray, List.set_cons_zero, List.set_cons_succ, i64_w, i32_w]
                          rfl
                        refine pure_ (i := 12) (N := some 5) (v := ?_) (a' := ?_) #[true, true, true, true, true, true, true, true, true, true, true, true, true] rfl rfl (any_of HT_.out (by kernel_rfl)) (fun _ _ _ h => h) (Or.inl ⟨by rfl, ?_⟩) ?_ ?_
                        rotate_left
                        · intro w'
                          go_simp
                          with_reducible rfl
                        rotate_left
                        · simp only [Act.put, List.setIfInBounds_toArray, List.set_cons_zero, List.set_cons_succ, i64_w, i32_w]
                          rfl
                        refine done_ (done_of HT_.out (by kernel_rfl)) ?_
                        try go_wp2
                        go_roundg k1
                        case measure => have := HK1.out; omega
                        case rel => exact ⟨(y127), (wrap64 (x7_1 + 1)), (wrap64 (x7_1 + 1)), (by first | rfl | (simp; done) | (simp [*]; done) | (simp [bne_nil_]; done)), (by first | rfl | (simp; done) | (simp [*]; done) | (simp [bne_nil_]; done)), H', ⟨by have := HK1.out; omega⟩, ⟨by (with_reducible repeat (first | apply Kd.R_alloc | apply Kd.R_drewN | apply Kd.R_drew)); exact Kd.R_mono HO129.out (fun _ hk => trivial)⟩, ⟨by repeat (first | (with_reducible first | exact HB.out | apply below_alloc | apply pw_below_drewN | apply below_drew1) | exact HB.out)⟩⟩
                      · rw [if_neg c14] at H
                        exact absurd H (by simp)
                    · rw [if_neg c13] at H
                      exact absurd H (by simp)
                  · rw [if_neg c12] at H
                    exact absurd H (by simp)
                · rw [if_neg c10] at H
                  exact absurd H (by simp)
              · rw [if_neg c9] at H
                exact absurd H (by simp)
            · rw [if_neg c8] at H
              exact absurd H (by simp)
          · replace c7 := Bool.eq_false_iff.mpr c7
            subst c7
            have H1 : (spec_SplitInclusive.l0 k1 a0 a1 x5_1 x6_1 (wrap64 (x7_1 + 1))) = some r := by rw [if_neg (show ¬ (false = true) by decide)] at H; exact H
            clear H
            have H := H1
            clear H1
            have H' := Aside0.mk H
            clear H
            have p5 : 0 ≤ (x7_1 : Int) := of_decide_eq_true (by first | (with_reducible assumption) | assumption)
            have q5 : x7_1 < (a0.size : Int) := of_decide_eq_true (by first | (with_reducible assumption) | assumption)
            have hx5 := bt_at a0 x7_1
            replace p5 := eq_true p5
            replace q5 := eq_true q5
            go_wp2_with (first | ((with_reducible refine gate_callee (f := 31) rfl ?_); refine goesL_ (some 18) rfl rfl Try.func31 (by kernel_rfl) rfl #[.string a1, .int .u8 (bt a0 x7_1)] rfl (by (try simp only [List.map_toArray, List.map_cons, List.map_nil]); first | done | rfl | (simp only [List.length_drop, List.length_take]; rfl)) ?_; (with_reducible refine (spec_mavenHas.calls k1 a1 (bt a0 x7_1) false _ A6.out).mono ?_); rintro e w' ⟨rfl, ⟨nd, rfl⟩⟩; refine ⟨_, rfl, ?_⟩))
            go_roundg k1
            case measure => have := HK1.out; omega
            case rel => exact ⟨(x5_1), (x6_1), (wrap64 (x7_1 + 1)), (by first | rfl | (simp; done) | (simp [*]; done) | (simp [bne_nil_]; done)), (by first | rfl | (simp; done) | (simp [*]; done) | (simp [bne_nil_]; done)), H', ⟨by have := HK1.out; omega⟩, ⟨by (with_reducible repeat (first | apply Kd.R_alloc | apply Kd.R_drewN | apply Kd.R_drew)); exact HO_5.out⟩, ⟨by repeat (first | (with_reducible first | exact HB.out | apply below_alloc | apply pw_below_drewN | apply below_drew1) | exact HB.out)⟩⟩
        · rw [if_neg c4] at H
          exact absurd H (by simp)
      · rw [if_neg c3] at H
        have c3b0 : decide (x7_1 < (a0.size : Int)) = false := decide_eq_false c3
        clear c3
        by_cases c20 : 0 ≤ x6_1
        · rw [if_pos c20] at H
          have c20b0 := eq_true c20
          have c20b1 : decide (0 ≤ x6_1) = true := decide_eq_true c20
          clear c20
          by_cases c21 : x6_1 ≤ (a0.size : Int)
          · rw [if_pos c21] at H
            have c21b0 := eq_true c21
            have c21b1 : decide (x6_1 ≤ (a0.size : Int)) = true := decide_eq_true c21
            clear c21
            by_cases c22 : x5_1.length < 8796093022208
            · rw [if_pos c22] at H
              have LMc22 := Aside0.mk c22
              clear c22
              obtain ⟨y130, hy130⟩ : ∃ y_ : List ByteArray, y_ = (x5_1 ++ [a0.extract (x6_1 : Int).toNat a0.size]) := ⟨_, rfl⟩
              replace H : (some y130) = some r := by first | (rw [hy130]; with_reducible exact H) | (have H2_ := (Option.bind_some _ _).symm.trans H; rw [hy130]; with_reducible exact H2_) | (have H2_ := (Option.bind_some _ _).symm.trans H; with_reducible exact H2_) | with_reducible exact H | (rw [hy130]; exact H) | exact H
              have Ny130 := Aside0.mk hy130
              clear hy130
              obtain rfl := Option.some.inj H
              go_wp2_with (first | ((with_reducible refine gate_builtin (b := .append) (xs := #[.tmp 33, .tmp 37]) rfl ?_); at_builtin; refine Kd.R_append Kd.string (w0 := w) w.heap.size rfl (.tmp 33) (.tmp 37) 26 9 (.string ⟨#[]⟩) 16 rfl Try.underlying26 info9 rfl (by decide) (by omega) u5 x5_1 (a0.extract (x6_1 : Int).toNat a0.size) [.string (a0.extract (x6_1 : Int).toNat a0.size)] (fun _ => True) (fun _ => False) rfl rfl ?aP (fun _ hk => hk.elim) ?aF ?aO ?aB ?aS ?aL ?_; (case aP => exact rfl); (case aB => exact (by repeat (first | (with_reducible first | exact HB.out | apply below_alloc | apply pw_below_drewN | apply below_drew1) | exact HB.out))); (case aF => exact (fun _ _ => trivial)); (case aO => exact (by (with_reducible repeat (first | apply Kd.R_alloc | apply Kd.R_drewN | apply Kd.R_drew)); exact HO_5.out)); (case aS => exact (below_size (by repeat (first | (with_reducible first | exact HB.out | apply below_alloc | apply pw_below_drewN | apply below_drew1) | exact HB.out)))); (case aL => have := LMc22.out; omega); intro v131 w23 ho hb hg hat; rw [← Ny130.out] at ho; have n0_ := Aside0.mk (hb); have n1_ := Aside0.mk (ho); clear HB; clear HO_5; have HB := n0_; have HO132 := n1_; clear n0_ n1_; clear ho hb hg hat))
              go_ret
              exact ⟨_, by first | rfl | (simp [errW_none, errW_some] <;> rfl) | (simp [*, errW_none, errW_some] <;> rfl) | (simp [bne_nil_]; done), by (with_reducible repeat (first | apply Kd.R_alloc | apply Kd.R_drewN | apply Kd.R_drew)); exact HO132.out, by repeat (first | (with_reducible first | exact HB.out | apply below_alloc | apply pw_below_drewN | apply below_drew1) | exact HB.out)⟩
            · rw [if_neg c22] at H
              exact absurd H (by simp)
          · rw [if_neg c21] at H
            exact absurd H (by simp)
        · rw [if_neg c20] at H
          exact absurd H (by simp)

end Go.Proofs.Ytojabknjniihmaa.QS
