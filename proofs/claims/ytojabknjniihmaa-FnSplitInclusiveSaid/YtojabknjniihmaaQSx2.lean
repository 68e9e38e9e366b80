-- Written by a working copy of the kit's print program, turned at a few places by wip/tool/mkprint.py. Lean checks it.
import Derived.Test.YtojabknjniihmaaQSx0
namespace Go.Proofs.Ytojabknjniihmaa.QS
open Go.RowKit Go.Proofs.YtojabknjniihmaaW.PrintWords Go.Proofs.YtojabknjniihmaaW.PrintLast Go.Proofs.YtojabknjniihmaaW.PrintMore
attribute [local go_sem] max2_int min2_int max_two min_two max_three min_three max_four min_four   -- for this text's walks alone
set_option linter.unusedVariables false
set_option linter.unusedSimpArgs false

/-! ### semantic_splitCharsInclusive: function 43 -/
def semantic_splitCharsInclusive.l0 : Nat → ByteArray → ByteArray → List ByteArray → Option (List ByteArray)
  | 0, _, _, _ => none
  | k + 1, x0, x1, x4 => (Giv.semantic_zzIndexAny.f x0 x1).bind fun t102 => (if t102 < 0 then (if x4.length < 8796093022208 then (some (x4 ++ [x0])) else (none)) else (if 0 ≤ t102 then (if t102 ≤ (x0.size : Int) then (if t102 ≤ (wrap64 (t102 + 1)) then (if (wrap64 (t102 + 1)) ≤ (x0.size : Int) then ((some (([x0.extract 0 (t102 : Int).toNat, x0.extract (t102 : Int).toNat ((wrap64 (t102 + 1)) : Int).toNat] : List ByteArray) : List ByteArray)).bind fun y106 => (if x4.length + y106.length < 8796093022208 then (if 0 ≤ (wrap64 (t102 + 1)) then (semantic_splitCharsInclusive.l0 k (x0.extract ((wrap64 (t102 + 1)) : Int).toNat x0.size) x1 (x4 ++ y106)) else (none)) else (none))) else (none)) else (none)) else (none)) else (none)))
def semantic_splitCharsInclusive.f (k : Nat) (a0 : ByteArray) (a1 : ByteArray) : Option (List ByteArray) := semantic_splitCharsInclusive.l0 k a0 a1 ([] : List ByteArray)
theorem semantic_splitCharsInclusive.mono_l : ∀ k, (∀ y0 y1 y2, LeO (semantic_splitCharsInclusive.l0 k y0 y1 y2) (semantic_splitCharsInclusive.l0 (k + 1) y0 y1 y2))
  | 0 => fun _ _ _ r h => by simp [semantic_splitCharsInclusive.l0] at h
  | k + 1 => by
    have ih0 := semantic_splitCharsInclusive.mono_l k
    · intro y0 y1 y2
      unfold semantic_splitCharsInclusive.l0
      repeat' first
      | (with_reducible exact ih0 _ _ _)
      | (with_reducible exact LeO.refl _)
      | (with_reducible exact LeO.none _)
      | (with_reducible refine LeO.ite ?_ ?_)
      | (with_reducible refine LeO.bind ?_ (fun _ => ?_))
      | exact ih0 _ _ _
      | exact LeO.none _
      | refine LeO.ite ?_ ?_
      | refine LeO.bind ?_ (fun _ => ?_)
theorem semantic_splitCharsInclusive.mono : ∀ a0 a1 k, LeO (semantic_splitCharsInclusive.f k a0 a1) (semantic_splitCharsInclusive.f (k + 1) a0 a1) := by
  intro a0 a1 k
  have ih0 := semantic_splitCharsInclusive.mono_l k
  unfold semantic_splitCharsInclusive.f
  repeat' first
      | (with_reducible exact ih0 _ _ _)
      | (with_reducible exact LeO.refl _)
      | (with_reducible exact LeO.none _)
      | (with_reducible refine LeO.ite ?_ ?_)
      | (with_reducible refine LeO.bind ?_ (fun _ => ?_))
      | exact ih0 _ _ _
      | exact LeO.none _
      | refine LeO.ite ?_ ?_
      | refine LeO.bind ?_ (fun _ => ?_)
def semantic_splitCharsInclusive.T3 : Bool × List (List Nat × List Nat) := (true, [([], []), ([], []), ([], []), ([1, 2], [1, 2]), ([], []), ([], []), ([], []), ([6], [6]), ([4, 5, 7], [4, 5, 7]), ([3, 8], [3, 8]), ([0, 9], [0, 9]), ([10, 10, 0, 1, 2, 3, 4, 5, 6, 7, 8, 9, 10], [0, 10])])
def semantic_splitCharsInclusive.B3 : List Nat := [0, 0, 0, 6, 0, 0, 0, 64, 240, 510, 1023, 2047]
theorem semantic_splitCharsInclusive.tab3 : rtab .any (opsOf Try.f43 3) = semantic_splitCharsInclusive.T3 := by kernel_rfl
theorem semantic_splitCharsInclusive.bits3 : waitsOk semantic_splitCharsInclusive.T3.2 semantic_splitCharsInclusive.B3 = true := by kernel_rfl
set_option maxHeartbeats 8000000 in
set_option maxRecDepth 100000 in
theorem semantic_splitCharsInclusive.calls (k : Nat) (a0 : ByteArray) (a1 : ByteArray) (r : List ByteArray) (w : World) (h : semantic_splitCharsInclusive.f k a0 a1 = some r) :
    Calls Try.prog 43 #[.string a0, .string a1] w fun e w' => ∃ v0_ : Value, e = .returned (v0_) ∧ Kd.R Kd.string 9 w' w.heap.size (fun _ => True) v0_ r ∧ Below w.heap.size w w' := by
  have HB := Aside0.mk (Below.refl w.heap.size w)
  have H : (semantic_splitCharsInclusive.l0 k a0 a1 ([] : List ByteArray)) = some r := h
  clear h
  have H' := Aside0.mk H
  clear H
  go_enter Try.func43, Try.ntmps43
  go_wp2
  go_loopg [0, 4] k (fun kq v0 v4 w' => ∃ (x0_1 : ByteArray) (x4_1 : List ByteArray), v0 = .string x0_1 ∧ Aside0 (semantic_splitCharsInclusive.l0 kq x0_1 a1 x4_1 = some r) ∧ Aside0 (kq ≤ k) ∧ Aside0 (Kd.R Kd.string 9 w' w.heap.size (fun _ => True) v4 x4_1) ∧ Aside0 (Below w.heap.size w w'))
  case atStart => exact ⟨(a0), (([] : List ByteArray)), (by first | rfl | (simp; done) | (simp [*]; done) | (simp [bne_nil_]; done)), H', ⟨Nat.le_refl _⟩, ⟨by first | exact Kd.R_nil _ _ _ _ _ | exact Kd.N_nil _ _ _ _ _ | exact Kd.V_nil _ _ _ _ _ | exact Kd.Q_nil _ _ _ _ _ | exact Kd.S_nil _ _ _ _ _⟩, ⟨by repeat (first | (with_reducible first | exact HB.out | apply below_alloc | apply pw_below_drewN | apply below_drew1) | exact HB.out)⟩⟩
  case round =>
    clear H'
    try clear p2
    obtain ⟨x0_1, x4_1, rfl, HA, HK1, HO_4, HB⟩ := hrel
    cases gk with
    | zero => exact absurd HA.out (by simp [semantic_splitCharsInclusive.l0])
    | succ k1 =>
      have H := HA.out
      clear HA
      simp only [semantic_splitCharsInclusive.l0] at H
      replace H := Option.bind_eq_some_iff.mp H
      obtain ⟨t102, A30, H⟩ := H
      replace H : (if t102 < 0 then (if x4_1.length < 8796093022208 then (some (x4_1 ++ [x0_1])) else (none)) else (if 0 ≤ t102 then (if t102 ≤ (x0_1.size : Int) then (if t102 ≤ (wrap64 (t102 + 1)) then (if (wrap64 (t102 + 1)) ≤ (x0_1.size : Int) then ((some (([x0_1.extract 0 (t102 : Int).toNat, x0_1.extract (t102 : Int).toNat ((wrap64 (t102 + 1)) : Int).toNat] : List ByteArray) : List ByteArray)).bind fun y106 => (if x4_1.length + y106.length < 8796093022208 then (if 0 ≤ (wrap64 (t102 + 1)) then (semantic_splitCharsInclusive.l0 k1 (x0_1.extract ((wrap64 (t102 + 1)) : Int).toNat x0_1.size) a1 (x4_1 ++ y106)) else (none)) else (none))) else (none)) else (none)) else (none)) else (none))) = some r := H
      have A3 := Aside0.mk A30
      clear A30
      by_cases c4 : t102 < 0
      · rw [if_pos c4] at H
        have c4b0 : decide (t102 < 0) = true := decide_eq_true c4
        clear c4
        by_cases c5 : x4_1.length < 8796093022208
        · rw [if_pos c5] at H
          have LMc5 := Aside0.mk c5
          clear c5
          obtain ⟨y103, hy103⟩ : ∃ y_ : List ByteArray, y_ = (x4_1 ++ [x0_1]) := ⟨_, rfl⟩
          replace H : (some y103) = some r := by first | (rw [hy103]; with_reducible exact H) | (have H2_ := (Option.bind_some _ _).symm.trans H; rw [hy103]; with_reducible exact H2_) | (have H2_ := (Option.bind_some _ _).symm.trans H; with_reducible exact H2_) | with_reducible exact H | (rw [hy103]; exact H) | exact H
          have Ny103 := Aside0.mk hy103
          clear hy103
          obtain rfl := Option.some.inj H
          go_wp2_with (first | ((with_reducible refine gate_callee (f := 53) rfl ?_); refine goesL_ (some 8) rfl rfl Try.func53 (by kernel_rfl) rfl #[.string x0_1, .string a1] rfl (by (try simp only [List.map_toArray, List.map_cons, List.map_nil]); first | done | rfl | (simp only [List.length_drop, List.length_take]; rfl)) ?_; (with_reducible refine (Giv.semantic_zzIndexAny.calls x0_1 a1 t102 _ A3.out).mono ?_); rintro e w6 ⟨rfl, hb⟩; refine ⟨_, rfl, ?_⟩; have n0_ := Aside0.mk (Kd.R_below (by (with_reducible repeat (first | apply Kd.R_alloc | apply Kd.R_drewN | apply Kd.R_drew)); exact HO_4.out) hb); have n1_ := Aside0.mk (below_step (by repeat (first | (with_reducible first | exact HB.out | apply below_alloc | apply pw_below_drewN | apply below_drew1) | exact HB.out)) hb); clear HO_4; clear HB; have HO_4 := n0_; have HB := n1_; clear n0_ n1_; (try clear hb); (try clear hb2); (try clear hk); (try clear hi)) | ((with_reducible refine gate_builtin (b := .append) (xs := #[.tmp 26, .tmp 28]) rfl ?_); at_builtin; refine Kd.R_append Kd.string (w0 := w) w.heap.size rfl (.tmp 26) (.tmp 28) 26 9 (.string ⟨#[]⟩) 16 rfl Try.underlying26 info9 rfl (by decide) (by omega) u4 x4_1 x0_1 [.string x0_1] (fun _ => True) (fun _ => False) rfl rfl ?aP (fun _ hk => hk.elim) ?aF ?aO ?aB ?aS ?aL ?_; (case aP => exact rfl); (case aB => exact (by repeat (first | (with_reducible first | exact HB.out | apply below_alloc | apply pw_below_drewN | apply below_drew1) | exact HB.out))); (case aF => exact (fun _ _ => trivial)); (case aO => exact (by (with_reducible repeat (first | apply Kd.R_alloc | apply Kd.R_drewN | apply Kd.R_drew)); exact HO_4.out)); (case aS => exact (below_size (by repeat (first | (with_reducible first | exact HB.out | apply below_alloc | apply pw_below_drewN | apply below_drew1) | exact HB.out)))); (case aL => have := LMc5.out; omega); intro v104 w7 ho hb hg hat; rw [← Ny103.out] at ho; have n0_ := Aside0.mk (hb); have n1_ := Aside0.mk (ho); clear HB; clear HO_4; have HB := n0_; have HO105 := n1_; clear n0_ n1_; clear ho hb hg hat))
          go_ret
          exact ⟨_, by first | rfl | (simp [errW_none, errW_some] <;> rfl) | (simp [*, errW_none, errW_some] <;> rfl) | (simp [bne_nil_]; done), by (with_reducible repeat (first | apply Kd.R_alloc | apply Kd.R_drewN | apply Kd.R_drew)); exact HO105.out, by repeat (first | (with_reducible first | exact HB.out | apply below_alloc | apply pw_below_drewN | apply below_drew1) | exact HB.out)⟩
        · rw [if_neg c5] at H
          exact absurd H (by simp)
      · rw [if_neg c4] at H
        have c4b0 : decide (t102 < 0) = false := decide_eq_false c4
        clear c4
        by_cases c8 : 0 ≤ t102
        · rw [if_pos c8] at H
          have c8b0 := eq_true c8
          have c8b1 : decide (0 ≤ t102) = true := decide_eq_true c8
          clear c8
          by_cases c9 : t102 ≤ (x0_1.size : Int)
          · rw [if_pos c9] at H
            have c9b0 := eq_true c9
            have c9b1 : decide (t102 ≤ (x0_1.size : Int)) = true := decide_eq_true c9
            clear c9
            have c10b0 := eq_true (of_decide_eq_true (by first | (with_reducible assumption) | assumption) : 0 ≤ t102)
            by_cases c11 : t102 ≤ (wrap64 (t102 + 1))
            · rw [if_pos c11] at H
              have c11b0 := eq_true c11
              have c11b1 : decide (t102 ≤ (wrap64 (t102 + 1))) = true := decide_eq_true c11
              by_cases c12 : (wrap64 (t102 + 1)) ≤ (x0_1.size : Int)
              · rw [if_pos c12] at H
                have c12b0 := eq_true c12
                have c12b1 : decide ((wrap64 (t102 + 1)) ≤ (x0_1.size : Int)) = true := decide_eq_true c12
                obtain ⟨y106, hy106⟩ : ∃ y_ : List ByteArray, y_ = (([x0_1.extract 0 (t102 : Int).toNat, x0_1.extract (t102 : Int).toNat ((wrap64 (t102 + 1)) : Int).toNat] : List ByteArray)) := ⟨_, rfl⟩
                replace H : (if x4_1.length + y106.length < 8796093022208 then (if 0 ≤ (wrap64 (t102 + 1)) then (semantic_splitCharsInclusive.l0 k1 (x0_1.extract ((wrap64 (t102 + 1)) : Int).toNat x0_1.size) a1 (x4_1 ++ y106)) else (none)) else (none)) = some r := by first | (rw [hy106]; with_reducible exact H) | (have H2_ := (Option.bind_some _ _).symm.trans H; rw [hy106]; with_reducible exact H2_) | (have H2_ := (Option.bind_some _ _).symm.trans H; with_reducible exact H2_) | with_reducible exact H | (rw [hy106]; exact H) | exact H
                have Ny106 := Aside0.mk hy106
                clear hy106
                by_cases c13 : x4_1.length + y106.length < 8796093022208
                · rw [if_pos c13] at H
                  have LMc13 := Aside0.mk c13
                  clear c13
                  obtain ⟨y109, hy109⟩ : ∃ y_ : List ByteArray, y_ = (x4_1 ++ y106) := ⟨_, rfl⟩
                  replace H : (if 0 ≤ (wrap64 (t102 + 1)) then (semantic_splitCharsInclusive.l0 k1 (x0_1.extract ((wrap64 (t102 + 1)) : Int).toNat x0_1.size) a1 y109) else (none)) = some r := by first | (rw [hy109]; with_reducible exact H) | (have H2_ := (Option.bind_some _ _).symm.trans H; rw [hy109]; with_reducible exact H2_) | (have H2_ := (Option.bind_some _ _).symm.trans H; with_reducible exact H2_) | with_reducible exact H | (rw [hy109]; exact H) | exact H
                  have Ny109 := Aside0.mk hy109
                  clear hy109
                  obtain ⟨ji14, hji14⟩ : ∃ j_ : Int, (wrap64 (t102 + 1)) = j_ := ⟨_, rfl⟩
                  replace H : (if 0 ≤ (ji14) then (semantic_splitCharsInclusive.l0 k1 (x0_1.extract ((ji14) : Int).toNat x0_1.size) a1 y109) else (none)) = some r := by first | (rw [hji14] at H; exact H) | (simp only [hji14] at H ⊢; exact H)
                  (try rw [hji14] at c11b0)
                  (try rw [hji14] at c11b1)
                  (try rw [hji14] at c11)
                  (try rw [hji14] at c12b0)
                  (try rw [hji14] at c12b1)
                  (try rw [hji14] at c12)
                  (try rw [hji14] at A3)
                  (try rw [hji14] at Ny106)
                  (try rw [hji14] at Ny106)
                  have hji14w : (IntKind.i64.wrap (t102 + 1)) = ji14 := (i64_w _).trans hji14
                  by_cases c15 : 0 ≤ (ji14)
                  · rw [if_pos c15] at H
                    have c15b0 := eq_true c15
                    have c15b1 : decide (0 ≤ (ji14)) = true := decide_eq_true c15
                    clear c15
                    have c16b0 := eq_true (of_decide_eq_true (by first | (with_reducible assumption) | assumption) : (ji14) ≤ (x0_1.size : Int))
                    have H' := Aside0.mk H
                    clear H
                    try go_wp2_with (first | ((with_reducible refine gate_callee (f := 53) rfl ?_); refine goesL_ (some 8) rfl rfl Try.func53 (by kernel_rfl) rfl #[.string x0_1, .string a1] rfl (by (try simp only [List.map_toArray, List.map_cons, List.map_nil]); first | done | rfl | (simp only [List.length_drop, List.length_take]; rfl)) ?_; (with_reducible refine (Giv.semantic_zzIndexAny.calls x0_1 a1 t102 _ A3.out).mono ?_); rintro e w17 ⟨rfl, hb⟩; refine ⟨_, rfl, ?_⟩; have n0_ := Aside0.mk (Kd.R_below (by (with_reducible repeat (first | apply Kd.R_alloc | apply Kd.R_drewN | apply Kd.R_drew)); exact HO_4.out) hb); have n1_ := Aside0.mk (below_step (by repeat (first | (with_reducible first | exact HB.out | apply below_alloc | apply pw_below_drewN | apply below_drew1) | exact HB.out)) hb); clear HO_4; clear HB; have HO_4 := n0_; have HB := n1_; clear n0_ n1_; (try clear hb); (try clear hb2); (try clear hk); (try clear hi)))
                    have n0_ := Aside0.mk (Kd.R_drew HO_4.out)
                    have n1_ := Aside0.mk (below_drew1 HB.out)
                    clear HO_4
                    clear HB
                    have HO_4 := n0_
                    have HB := n1_
                    clear n0_ n1_
                    refine start_ (n := 12) (S := fun w' => True) (ds := []) #[false, false, false, false, false, false, false, false, false, false, false, false] (by kernel_rfl) rfl rfl trivial (fun hHeld => ?_); refine with_tabW semantic_splitCharsInclusive.tab3 semantic_splitCharsInclusive.bits3 (fun HT_ HW_ => ?_)
                    generalize w17.drew = w18 at HO_4 HB hHeld ⊢
                    refine pure_ (i := 0) (N := some 11) (v := ?_) (a' := ?_) #[true, false, false, false, false, false, false, false, false, false, false, false] rfl rfl (any_of HT_.out (by kernel_rfl)) (fun _ _ _ h => h) (Or.inl ⟨by rfl, ?_⟩) ?_ ?_
                    rotate_left
                    · intro w'
                      go_simp
                      with_reducible rfl
                    rotate_left
                    · simp only [Act.put, List.setIfInBounds_toArray, List.set_cons_zero, List.set_cons_succ, i64_w, i32_w]
                      rfl
                    refine pure_ (i := 1) (N := some 12) (v := ?_) (a' := ?_) #[true, true, false, false, false, false, false, false, false, false, false, false] rfl rfl (any_of HT_.out (by kernel_rfl)) (fun _ _ _ h => h) (Or.inl ⟨by rfl, ?_⟩) ?_ ?_
                    rotate_left
                    · intro w'
                      go_simp
                      with_reducible rfl
                    rotate_left
                    · simp only [Act.put, List.setIfInBounds_toArray, List.set_cons_zero, List.set_cons_succ, i64_w, i32_w]
                      rfl
                    refine pure_ (i := 2) (N := some 13) (v := ?_) (a' := ?_) #[true, true, true, false, false, false, false, false, false, false, false, false] rfl rfl (any_of HT_.out (by kernel_rfl)) (fun _ _ _ h => h) (Or.inl ⟨by rfl, ?_⟩) ?_ ?_
                    rotate_left
                    · intro w'
                      go_simp
                      with_reducible rfl
                    rotate_left
                    · simp only [Act.put, List.setIfInBounds_toArray, List.set_cons_zero, List.set_cons_succ, i64_w, i32_w]
                      rfl
                    refine pure_ (i := 3) (N := some 14) (v := ?_) (a' := ?_) #[true, true, true, true, false, false, false, false, false, false, false, false] rfl rfl (any_of HT_.out (by kernel_rfl)) (fun _ _ _ h => h) (Or.inl ⟨by rfl, ?_⟩) ?_ ?_
                    rotate_left
                    · intro w'
                      go_simp
                      with_reducible rfl
                    rotate_left
                    · simp only [Act.put, List.setIfInBounds_toArray, List.set_cons_zero, List.set_cons_succ, i64_w, i32_w]
                      rfl
                    refine pure_ (i := 4) (N := some 15) (v := ?_) (a' := ?_) #[true, true, true, true, true, false, false, false, false, false, false, false] rfl rfl (any_of HT_.out (by kernel_rfl)) (fun _ _ _ h => h) (Or.inl ⟨by rfl, ?_⟩) ?_ ?_
                    rotate_left
                    · intro w'
                      go_simp
                      with_reducible rfl
                    rotate_left
                    · simp only [Act.put, List.setIfInBounds_toArray, List.set_cons_zero, List.set_cons_succ, i64_w, i32_w]
                      rfl
                    refine pure_ (i := 5) (N := some 16) (v := ?_) (a' := ?_) #[true, true, true, true, true, true, false, false, false, false, false, false] rfl rfl (any_of HT_.out (by kernel_rfl)) (fun _ _ _ h => h) (Or.inl ⟨by rfl, ?_⟩) ?_ ?_
                    rotate_left
                    · intro w'
                      go_simp
                      with_reducible rfl
                    rotate_left
                    · simp only [Act.put, List.setIfInBounds_toArray, List.set_cons_zero, List.set_cons_succ, i64_w, i32_w]
                      rfl
                    refine pure_ (i := 6) (N := some 17) (v := ?_) (a' := ?_) #[true, true, true, true, true, true, true, false, false, false, false, false] rfl rfl (any_of HT_.out (by kernel_rfl)) (fun _ _ _ h => h) (Or.inl ⟨by rfl, ?_⟩) ?_ ?_
                    rotate_left
                    · intro w'
                      go_simp
                      with_reducible rfl
                    rotate_left
                    · simp only [Act.put, List.setIfInBounds_toArray, List.set_cons_zero, List.set_cons_succ, i64_w, i32_w]
                      rfl
                    refine pure_ (i := 7) (N := some 18) (v := ?_) (a' := ?_) #[true, true, true, true, true, true, true, true, false, false, false, false] rfl rfl (any_of HT_.out (by kernel_rfl)) (fun _ _ _ h => h) (Or.inl ⟨by rfl, ?_⟩) ?_ ?_
                    rotate_left
                    · intro w'
                      go_simp
                      with_reducible rfl
                    rotate_left
                    · simp only [Act.put, List.setIfInBounds_toArray, List.set_cons_zero, List.set_cons_succ, i64_w, i32_w]
                      rfl
                    refine pure_ (i := 8) (N := some 19) (v := ?_) (a' := ?_) #[true, true, true, true, true, true, true, true, true, false, false, false] rfl rfl (any_of HT_.out (by kernel_rfl)) (fun _ _ _ h => h) (Or.inl ⟨by rfl, ?_⟩) ?_ ?_
                    rotate_left
                    · intro w'
                      go_simp
                      with_reducible rfl
                    rotate_left
                    · simp only [Act.put, List.setIfInBounds_toArray, List.set_cons_zero, List.set_cons_succ, i64_w, i32_w]
                      rfl
                    refine one_ (i := 9) (N := some 20) #[true, true, true, true, true, true, true, true, true, true, false, false] rfl rfl (one_of HT_.out (by kernel_rfl)) (by decide) (fun K hK => ?_)
                    refine Kd.R_lit_step Kd.string _ 9 ?hg (N := 20) ?hd (xs := ([x0_1.extract 0 (t102 : Int).toNat, x0_1.extract (t102 : Int).toNat ((ji14) : Int).toNat] : List ByteArray)) (inner := [.string (x0_1.extract 0 (t102 : Int).toNat), .string (x0_1.extract (t102 : Int).toNat ((ji14) : Int).toNat)]) (ok := fun _ => True) (okp := fun _ => True) ?hr ?hp (fun _ hk => hk) trivial (Below.refl _ _) (Nat.le_refl _) (by simp) ?_; (case hd => rfl); (case hg => rfl); (case hr => first | (go_simp; done) | (go_simp; rfl)); (case hp => exact (Reps.one (show Kd.M Kd.string _ _ _ (x0_1.extract 0 (t102 : Int).toNat) [.string (x0_1.extract 0 (t102 : Int).toNat)] from rfl) (Reps.one (show Kd.M Kd.string _ _ _ (x0_1.extract (t102 : Int).toNat ((ji14) : Int).toNat) [.string (x0_1.extract (t102 : Int).toNat ((ji14) : Int).toNat)] from rfl) (Reps.none _ _))))
                    intro v107 w19 ho20 hb hg_ hnew_
                    clear hg_ hnew_
                    (first | rw [← Ny106.out] at ho20 | (simp only [Int.reduceToNat] at ho20; rw [← Ny106.out] at ho20))
                    have n0_ := Aside0.mk (Kd.R_elder' (by (with_reducible repeat (first | apply Kd.R_alloc | apply Kd.R_drewN | apply Kd.R_drew)); exact HO_4.out) (Kd.R_base ho20) hb)
                    have n1_ := Aside0.mk (Kd.R_lower (Kd.R_new' ho20 (Kd.R_lt (by (with_reducible repeat (first | apply Kd.R_alloc | apply Kd.R_drewN | apply Kd.R_drew)); exact HO_4.out))) (below_size (by repeat (first | (with_reducible first | exact HB.out | apply below_alloc | apply pw_below_drewN | apply below_drew1) | exact HB.out))))
                    have n2_ := Aside0.mk (below_step (by repeat (first | (with_reducible first | exact HB.out | apply below_alloc | apply pw_below_drewN | apply below_drew1) | exact HB.out)) hb)
                    clear HO_4
                    clear HB
                    have HO_4 := n0_
                    have HO108 := n1_
                    have HB := n2_
                    clear n0_ n1_ n2_
                    clear hb ho20
                    obtain ⟨Ao22, co22, eo22⟩ := Kd.R_slice HO108.out
                    (first | subst eo22 | (injection eo22 with f1_ f2_ f3_; have f4_ := f1_.symm; have f5_ := f3_.symm; clear f1_ f2_ f3_; subst f4_; subst f5_))
                    refine hK.out _ _ trivial (fun hHeld => ?_)
                    clear hK K
                    refine norm_ (a' := ?_) ?_ ?_
                    rotate_left
                    · show Act.put _ (some 20) _ = _
                      simp only [Act.put, List.setIfInBounds_toArray, List.set_cons_zero, List.set_cons_succ, i64_w, i32_w]
                      rfl
                    refine one_ (i := 10) (N := some 21) #[true, true, true, true, true, true, true, true, true, true, true, false] rfl rfl (one_of HT_.out (by kernel_rfl)) (by decide) (fun K hK => ?_)
                    refine Kd.R_append_rows_step Kd.string (w0 := w) w.heap.size (by rfl) (.tmp 11) (.tmp 20) 26 9 (.string ⟨#[]⟩) 16 rfl Try.underlying26 info9 rfl (by decide) (by omega) u4 x4_1 y106 _ _ _ (fun k_ => some k_ ≠ (.slice Ao22 y106.length co22 : Value).ownBlock) (fun _ => False) rfl rfl ?aO ?aR (fun _ _ h => h) (fun _ h => h.elim) ?aF ?aB ?aS ?aL ?_
                    (case aR => repeat (first | exact (Kd.R_reads' HO108.out).2.2 | (with_reducible refine Kd.C_alloc ?_ _) | (with_reducible refine Kd.C_drewN ?_ _) | (with_reducible refine Kd.C_drew ?_)))
                    (case aB => exact (by repeat (first | (with_reducible first | exact HB.out | apply below_alloc | apply pw_below_drewN | apply below_drew1) | exact HB.out)))
                    (case aF => exact (fun k_ hk => Kd.fresh' (Kd.R_lt (by (with_reducible repeat (first | apply Kd.R_alloc | apply Kd.R_drewN | apply Kd.R_drew)); exact HO108.out)) k_ hk))
                    (case aO => exact (by (with_reducible repeat (first | apply Kd.R_alloc | apply Kd.R_drewN | apply Kd.R_drew)); exact Kd.R_mono HO_4.out (fun _ hk => hk.2)))
                    (case aS => exact (below_size (by repeat (first | (with_reducible first | exact HB.out | apply below_alloc | apply pw_below_drewN | apply below_drew1) | exact HB.out))))
                    (case aL => have := LMc13.out; omega)
                    intro v110 w21 ho hb hg hat
                    rw [← Ny109.out] at ho
                    have n0_ := Aside0.mk (Kd.R_after (ok := (fun _ => True)) (by (with_reducible repeat (first | apply Kd.R_alloc | apply Kd.R_drewN | apply Kd.R_drew)); exact HO108.out) hg hat)
                    have n1_ := Aside0.mk (hb)
                    have n2_ := Aside0.mk (ho)
                    clear HO108
                    clear HB
                    clear HO_4
                    have HO108 := n0_
                    have HB := n1_
                    have HO111 := n2_
                    clear n0_ n1_ n2_
                    clear ho hb hg hat
                    refine hK.out _ _ trivial (fun hHeld => ?_)
                    clear hK K
                    refine norm_ (a' := ?_) ?_ ?_
                    rotate_left
                    · show Act.put _ (some 21) _ = _
                      simp only [Act.put, List.setIfInBounds_toArray, List.set_cons_zero, List.set_cons_succ, i64_w, i32_w]
                      rfl
                    refine pure_ (i := 11) (N := some 4) (v := ?_) (a' := ?_) #[true, true, true, true, true, true, true, true, true, true, true, true] rfl rfl (any_of HT_.out (by kernel_rfl)) (fun _ _ _ h => h) (Or.inl ⟨by rfl, ?_⟩) ?_ ?_
                    rotate_left
                    · intro w'
                      go_simp
                      with_reducible rfl
                    rotate_left
                    · simp only [Act.put, List.setIfInBounds_toArray, List.set_cons_zero, List.set_cons_succ, i64_w, i32_w]
                      rfl
                    refine done_ (done_of HT_.out (by kernel_rfl)) ?_
                    try go_wp2
                    go_roundg k1
                    case measure => have := HK1.out; omega
                    case rel => exact ⟨(x0_1.extract ((ji14) : Int).toNat x0_1.size), (y109), (by first | rfl | (simp; done) | (simp only [← hji14] <;> (first | rfl | simp)) | (simp [*]; done)), H', ⟨by have := HK1.out; omega⟩, ⟨by (with_reducible repeat (first | apply Kd.R_alloc | apply Kd.R_drewN | apply Kd.R_drew)); exact Kd.R_mono HO111.out (fun _ hk => trivial)⟩, ⟨by repeat (first | (with_reducible first | exact HB.out | apply below_alloc | apply pw_below_drewN | apply below_drew1) | exact HB.out)⟩⟩
                  · rw [if_neg c15] at H
                    exact absurd H (by simp)
                · rw [if_neg c13] at H
                  exact absurd H (by simp)
              · rw [if_neg c12] at H
                exact absurd H (by simp)
            · rw [if_neg c11] at H
              exact absurd H (by simp)
          · rw [if_neg c9] at H
            exact absurd H (by simp)
        · rw [if_neg c8] at H
          exact absurd H (by simp)

/-! ### semantic_ZZSplitInclusive: function 30 -/
def semantic_ZZSplitInclusive.f (k : Nat) (a0 : ByteArray) (a1 : ByteArray) : Option (List ByteArray) := (semantic_splitCharsInclusive.f k a0 a1).bind fun t112 => (some t112)
theorem semantic_ZZSplitInclusive.mono : ∀ a0 a1 k, LeO (semantic_ZZSplitInclusive.f k a0 a1) (semantic_ZZSplitInclusive.f (k + 1) a0 a1) := by
  intro a0 a1 k
  unfold semantic_ZZSplitInclusive.f
  repeat' first
      | (with_reducible exact semantic_splitCharsInclusive.mono _ _ _)
      | (with_reducible exact LeO.refl _)
      | (with_reducible exact LeO.none _)
      | (with_reducible refine LeO.ite ?_ ?_)
      | (with_reducible refine LeO.bind ?_ (fun _ => ?_))
      | exact semantic_splitCharsInclusive.mono _ _ _
      | exact LeO.none _
      | refine LeO.ite ?_ ?_
      | refine LeO.bind ?_ (fun _ => ?_)
set_option maxHeartbeats 8000000 in
set_option maxRecDepth 100000 in
theorem semantic_ZZSplitInclusive.calls (k : Nat) (a0 : ByteArray) (a1 : ByteArray) (r : List ByteArray) (w : World) (h : semantic_ZZSplitInclusive.f k a0 a1 = some r) :
    Calls Try.prog 30 #[.string a0, .string a1] w fun e w' => ∃ v0_ : Value, e = .returned (v0_) ∧ Kd.R Kd.string 9 w' w.heap.size (fun _ => True) v0_ r ∧ Below w.heap.size w w' := by
  have HB := Aside0.mk (Below.refl w.heap.size w)
  have H : ((semantic_splitCharsInclusive.f k a0 a1).bind fun t112 => (some t112)) = some r := h
  clear h
  replace H := Option.bind_eq_some_iff.mp H
  obtain ⟨t112, A30, H⟩ := H
  replace H : (some t112) = some r := H
  have A3 := Aside0.mk A30
  clear A30
  obtain rfl := Option.some.inj H
  go_enter Try.func30, Try.ntmps30
  go_wp2_with (first | ((with_reducible refine gate_callee (f := 43) rfl ?_); refine goesL_ (some 7) rfl rfl Try.func43 (by kernel_rfl) rfl #[.string a0, .string a1] rfl (by (try simp only [List.map_toArray, List.map_cons, List.map_nil]); first | done | rfl | (simp only [List.length_drop, List.length_take]; rfl)) ?_; (with_reducible refine (semantic_splitCharsInclusive.calls k a0 a1 t112 _ A3.out).mono ?_); rintro e w4 ⟨v113, rfl, ho0, hb⟩; refine ⟨_, rfl, ?_⟩; have n0_ := Aside0.mk (Kd.R_lower ho0 (below_size (by repeat (first | (with_reducible first | exact HB.out | apply below_alloc | apply pw_below_drewN | apply below_drew1) | exact HB.out)))); have n1_ := Aside0.mk (below_step (by repeat (first | (with_reducible first | exact HB.out | apply below_alloc | apply pw_below_drewN | apply below_drew1) | exact HB.out)) hb); clear HB; have HO114 := n0_; have HB := n1_; clear n0_ n1_; (try clear hb); (try clear hb2); (try clear hk); (try clear hi); (try clear ho0)))
  go_ret
  exact ⟨_, by first | rfl | (simp [errW_none, errW_some] <;> rfl) | (simp [*, errW_none, errW_some] <;> rfl) | (simp [bne_nil_]; done), by (with_reducible repeat (first | apply Kd.R_alloc | apply Kd.R_drewN | apply Kd.R_drew)); exact HO114.out, by repeat (first | (with_reducible first | exact HB.out | apply below_alloc | apply pw_below_drewN | apply below_drew1) | exact HB.out)⟩

/-! ### impl_SplitInclusive: function 16 -/
def impl_SplitInclusive.f (k : Nat) (a0 : ByteArray) (a1 : ByteArray) : Option (List ByteArray) := (semantic_ZZSplitInclusive.f k a0 a1).bind fun t115 => (if ([] : List ByteArray).length + t115.length < 8796093022208 then (some (([] : List ByteArray) ++ t115)) else (none))
theorem impl_SplitInclusive.mono : ∀ a0 a1 k, LeO (impl_SplitInclusive.f k a0 a1) (impl_SplitInclusive.f (k + 1) a0 a1) := by
  intro a0 a1 k
  unfold impl_SplitInclusive.f
  repeat' first
      | (with_reducible exact semantic_ZZSplitInclusive.mono _ _ _)
      | (with_reducible exact LeO.refl _)
      | (with_reducible exact LeO.none _)
      | (with_reducible refine LeO.ite ?_ ?_)
      | (with_reducible refine LeO.bind ?_ (fun _ => ?_))
      | exact semantic_ZZSplitInclusive.mono _ _ _
      | exact LeO.none _
      | refine LeO.ite ?_ ?_
      | refine LeO.bind ?_ (fun _ => ?_)
set_option maxHeartbeats 8000000 in
set_option maxRecDepth 100000 in
theorem impl_SplitInclusive.calls (k : Nat) (a0 : ByteArray) (a1 : ByteArray) (r : List ByteArray) (w : World) (h : impl_SplitInclusive.f k a0 a1 = some r) :
    Calls Try.prog 16 #[.string a0, .string a1] w fun e w' => ∃ v0_ : Value, e = .returned (v0_) ∧ Kd.R Kd.string 9 w' w.heap.size (fun _ => True) v0_ r ∧ Below w.heap.size w w' := by
  have HB := Aside0.mk (Below.refl w.heap.size w)
  have H : ((semantic_ZZSplitInclusive.f k a0 a1).bind fun t115 => (if ([] : List ByteArray).length + t115.length < 8796093022208 then (some (([] : List ByteArray) ++ t115)) else (none))) = some r := h
  clear h
  replace H := Option.bind_eq_some_iff.mp H
  obtain ⟨t115, A30, H⟩ := H
  replace H : (if ([] : List ByteArray).length + t115.length < 8796093022208 then (some (([] : List ByteArray) ++ t115)) else (none)) = some r := H
  have A3 := Aside0.mk A30
  clear A30
  by_cases c4 : ([] : List ByteArray).length + t115.length < 8796093022208
  · rw [if_pos c4] at H
    have LMc4 := Aside0.mk c4
    clear c4
    obtain ⟨y118, hy118⟩ : ∃ y_ : List ByteArray, y_ = (([] : List ByteArray) ++ t115) := ⟨_, rfl⟩
    replace H : (some y118) = some r := by first | (rw [hy118]; with_reducible exact H) | (have H2_ := (Option.bind_some _ _).symm.trans H; rw [hy118]; with_reducible exact H2_) | (have H2_ := (Option.bind_some _ _).symm.trans H; with_reducible exact H2_) | with_reducible exact H | (rw [hy118]; exact H) | exact H
    have Ny118 := Aside0.mk hy118
    clear hy118
    obtain rfl := Option.some.inj H
    go_enter Try.func16, Try.ntmps16
    go_wp2_with (first | ((with_reducible refine gate_callee (f := 30) rfl ?_); refine goesL_ (some 7) rfl rfl Try.func30 (by kernel_rfl) rfl #[.string a0, .string a1] rfl (by (try simp only [List.map_toArray, List.map_cons, List.map_nil]); first | done | rfl | (simp only [List.length_drop, List.length_take]; rfl)) ?_; (with_reducible refine (semantic_ZZSplitInclusive.calls k a0 a1 t115 _ A3.out).mono ?_); rintro e w5 ⟨v116, rfl, ho0, hb⟩; refine ⟨_, rfl, ?_⟩; have n0_ := Aside0.mk (Kd.R_lower ho0 (below_size (by repeat (first | (with_reducible first | exact HB.out | apply below_alloc | apply pw_below_drewN | apply below_drew1) | exact HB.out)))); have n1_ := Aside0.mk (below_step (by repeat (first | (with_reducible first | exact HB.out | apply below_alloc | apply pw_below_drewN | apply below_drew1) | exact HB.out)) hb); clear HB; have HO117 := n0_; have HB := n1_; clear n0_ n1_; (try clear hb); (try clear hb2); (try clear hk); (try clear hi); (try clear ho0); obtain ⟨Ao7, co7, eo7⟩ := Kd.R_slice HO117.out; subst eo7) | ((with_reducible refine gate_builtin (b := .append) (xs := #[.const (.slice none 0 0), .tmp 7]) rfl ?_); at_builtin; refine Kd.R_append_rows Kd.string (w0 := w) w.heap.size rfl (.const (.slice none 0 0)) (.tmp 7) 26 9 (.string ⟨#[]⟩) 16 rfl Try.underlying26 info9 rfl (by decide) (by omega) (.slice none 0 0) ([] : List ByteArray) t115 _ _ _ (fun k_ => some k_ ≠ (.slice Ao7 t115.length co7 : Value).ownBlock) (fun _ => False) rfl rfl ?aO ?aR (fun _ _ h => h) (fun _ h => h.elim) ?aF ?aB ?aS ?aL ?_; (case aR => repeat (first | exact (Kd.R_reads' HO117.out).2.2 | (with_reducible refine Kd.C_alloc ?_ _) | (with_reducible refine Kd.C_drewN ?_ _) | (with_reducible refine Kd.C_drew ?_))); (case aB => exact (by repeat (first | (with_reducible first | exact HB.out | apply below_alloc | apply pw_below_drewN | apply below_drew1) | exact HB.out))); (case aF => exact (fun k_ hk => Kd.fresh' (Kd.R_lt (by (with_reducible repeat (first | apply Kd.R_alloc | apply Kd.R_drewN | apply Kd.R_drew)); exact HO117.out)) k_ hk)); (case aO => exact ((Kd.R_nil _ _ _ _ (fun k_ => some k_ ≠ (.slice Ao7 t115.length co7 : Value).ownBlock)))); (case aS => exact (below_size (by repeat (first | (with_reducible first | exact HB.out | apply below_alloc | apply pw_below_drewN | apply below_drew1) | exact HB.out)))); (case aL => have := LMc4.out; omega); intro v119 w6 ho hb hg hat; rw [← Ny118.out] at ho; have n0_ := Aside0.mk (Kd.R_after (Kd.R_apart_nil (by (with_reducible repeat (first | apply Kd.R_alloc | apply Kd.R_drewN | apply Kd.R_drew)); exact HO117.out)) hg hat); have n1_ := Aside0.mk (hb); have n2_ := Aside0.mk (ho); clear HO117; clear HB; have HO117 := n0_; have HB := n1_; have HO120 := n2_; clear n0_ n1_ n2_; clear ho hb hg hat))
    go_ret
    exact ⟨_, by first | rfl | (simp [errW_none, errW_some] <;> rfl) | (simp [*, errW_none, errW_some] <;> rfl) | (simp [bne_nil_]; done), by (with_reducible repeat (first | apply Kd.R_alloc | apply Kd.R_drewN | apply Kd.R_drew)); exact Kd.R_mono HO120.out (fun _ hk => trivial), by repeat (first | (with_reducible first | exact HB.out | apply below_alloc | apply pw_below_drewN | apply below_drew1) | exact HB.out)⟩
  · rw [if_neg c4] at H
    exact absurd H (by simp)

end Go.Proofs.Ytojabknjniihmaa.QS
