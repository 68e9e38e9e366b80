-- Written by a working copy of the kit's print program, turned at a few places by wip/tool/mkprint.py. Lean checks it.
import Derived.Test.YtnbpoplomdocjaaGreatDoorQCx0
namespace Go.Proofs.YtnbpoplomdocjaaGreatDoor.QC
open Go.RowKit Go.Proofs.YtnbpoplomdocjaaGreatDoorW.PrintWords Go.Proofs.YtnbpoplomdocjaaGreatDoorW.PrintLast Go.Proofs.YtnbpoplomdocjaaGreatDoorW.PrintMore
attribute [local go_sem] max2_int min2_int max_two min_two max_three min_three max_four min_four   -- for this text's walks alone
set_option linter.unusedVariables false
set_option linter.unusedSimpArgs false

/-! ### semantic_zzIndex: function 76 -/
def semantic_zzIndex.l0 : Nat → ByteArray → ByteArray → Int → Option (Int)
  | 0, _, _, _ => none
  | k + 1, x0, x1, x5 => if (wrap64 (x5 + (x1.size : Int))) ≤ (x0.size : Int) then (if 0 ≤ x5 then (if x5 ≤ (wrap64 (x5 + (x1.size : Int))) then (if (x0.extract (x5 : Int).toNat ((wrap64 (x5 + (x1.size : Int))) : Int).toNat).toList = x1.toList then (some x5) else (semantic_zzIndex.l0 k x0 x1 (wrap64 (x5 + 1)))) else (none)) else (none)) else (some (-1))
def semantic_zzIndex.f (k : Nat) (a0 : ByteArray) (a1 : ByteArray) : Option (Int) := semantic_zzIndex.l0 k a0 a1 0
theorem semantic_zzIndex.mono_l : ∀ k, (∀ y0 y1 y2, LeO (semantic_zzIndex.l0 k y0 y1 y2) (semantic_zzIndex.l0 (k + 1) y0 y1 y2))
  | 0 => fun _ _ _ r h => by simp [semantic_zzIndex.l0] at h
  | k + 1 => by
    have ih0 := semantic_zzIndex.mono_l k
    · intro y0 y1 y2
      unfold semantic_zzIndex.l0
      repeat' first
      | (with_reducible exact ih0 _ _ _)
      | (with_reducible exact LeO.refl _)
      | (with_reducible exact LeO.none _)
      | (with_reducible refine LeO.ite ?_ ?_)
      | (with_reducible refine LeO.bind ?_ (fun _ => ?_))
      | exact ih0 _ _ _
      | exact LeO.none _
      | refine LeO.ite ?_ ?_
      | refine LeO.bind ?_ (fun _ => ?_)
theorem semantic_zzIndex.mono : ∀ a0 a1 k, LeO (semantic_zzIndex.f k a0 a1) (semantic_zzIndex.f (k + 1) a0 a1) := by
  intro a0 a1 k
  have ih0 := semantic_zzIndex.mono_l k
  unfold semantic_zzIndex.f
  repeat' first
      | (with_reducible exact ih0 _ _ _)
      | (with_reducible exact LeO.refl _)
      | (with_reducible exact LeO.none _)
      | (with_reducible refine LeO.ite ?_ ?_)
      | (with_reducible refine LeO.bind ?_ (fun _ => ?_))
      | exact ih0 _ _ _
      | exact LeO.none _
      | refine LeO.ite ?_ ?_
      | refine LeO.bind ?_ (fun _ => ?_)
set_option maxHeartbeats 8000000 in
set_option maxRecDepth 100000 in
theorem semantic_zzIndex.calls (k : Nat) (a0 : ByteArray) (a1 : ByteArray) (r : Int) (w : World) (h : semantic_zzIndex.f k a0 a1 = some r) :
    Calls Tryz.prog 76 #[.string a0, .string a1] w fun e w' => e = .returned (.int .i64 r) ∧ Drawn0 w w' := by
  have H : (semantic_zzIndex.l0 k a0 a1 0) = some r := h
  clear h
  have H' := Aside0.mk H
  clear H
  go_enter Tryz.func76, Tryz.ntmps76
  go_wp2
  go_loopg [5] k (fun kq v5 w' => ∃ (x5_1 : Int), v5 = .int .i64 x5_1 ∧ Aside0 (semantic_zzIndex.l0 kq a0 a1 x5_1 = some r) ∧ Aside0 (kq ≤ k) ∧ Drawn0 w w')
  case atStart => exact ⟨(0), (by first | rfl | (simp; done) | (simp [*]; done) | (simp [bne_nil_]; done)), H', ⟨Nat.le_refl _⟩, by repeat (first | exact Drawn0.refl _ | apply Drawn0.step)⟩
  case round =>
    clear H'
    try clear p2
    obtain ⟨x5_1, rfl, HA, HK1, ⟨m1, rfl⟩⟩ := hrel
    cases gk with
    | zero => exact absurd HA.out (by simp [semantic_zzIndex.l0])
    | succ k1 =>
      have H := HA.out
      clear HA
      simp only [semantic_zzIndex.l0] at H
      by_cases c3 : (wrap64 (x5_1 + (a1.size : Int))) ≤ (a0.size : Int)
      · rw [if_pos c3] at H
        have c3b0 : decide ((wrap64 (x5_1 + (a1.size : Int))) ≤ (a0.size : Int)) = true := decide_eq_true c3
        clear c3
        by_cases c4 : 0 ≤ x5_1
        · rw [if_pos c4] at H
          have c4b0 := eq_true c4
          have c4b1 : decide (0 ≤ x5_1) = true := decide_eq_true c4
          clear c4
          by_cases c5 : x5_1 ≤ (wrap64 (x5_1 + (a1.size : Int)))
          · rw [if_pos c5] at H
            have c5b0 := eq_true c5
            have c5b1 : decide (x5_1 ≤ (wrap64 (x5_1 + (a1.size : Int)))) = true := decide_eq_true c5
            have c6b0 := eq_true (of_decide_eq_true (by first | (with_reducible assumption) | assumption) : (wrap64 (x5_1 + (a1.size : Int))) ≤ (a0.size : Int))
            by_cases c7 : (a0.extract (x5_1 : Int).toNat ((wrap64 (x5_1 + (a1.size : Int))) : Int).toNat).toList = a1.toList
            · rw [if_pos c7] at H
              (try (have c7bz := c7; simp only [ByteArray.size_extract, Nat.min_self] at c7bz; replace c7bz := decide_eq_true c7bz))
              have c7b0 : ((a0.extract (x5_1 : Int).toNat ((wrap64 (x5_1 + (a1.size : Int))) : Int).toNat).toList == a1.toList) = true := beq_iff_eq.mpr c7
              have c7b1 : ((a0.extract (x5_1 : Int).toNat ((wrap64 (x5_1 + (a1.size : Int))) : Int).toNat).toList != a1.toList) = false := bne_eq_false_iff_eq.mpr c7
              clear c7
              obtain rfl := Option.some.inj H
              go_wp2
              go_ret
              exact ⟨by first | rfl | (simp; done) | (simp [*]; done) | (simp [bne_nil_]; done), by repeat (first | exact Drawn0.refl _ | apply Drawn0.step)⟩
            · rw [if_neg c7] at H
              (try (have c7bz := c7; simp only [ByteArray.size_extract, Nat.min_self] at c7bz; replace c7bz := decide_eq_false c7bz))
              have c7b0 : ((a0.extract (x5_1 : Int).toNat ((wrap64 (x5_1 + (a1.size : Int))) : Int).toNat).toList == a1.toList) = false := beq_eq_false_iff_ne.mpr c7
              have c7b1 : ((a0.extract (x5_1 : Int).toNat ((wrap64 (x5_1 + (a1.size : Int))) : Int).toNat).toList != a1.toList) = true := bne_iff_ne.mpr c7
              have H' := Aside0.mk H
              clear H
              go_wp2
              go_roundg k1
              case measure => have := HK1.out; omega
              case rel => exact ⟨(wrap64 (x5_1 + 1)), (by first | rfl | (simp; done) | (simp [*]; done) | (simp [bne_nil_]; done)), H', ⟨by have := HK1.out; omega⟩, by repeat (first | exact Drawn0.refl _ | apply Drawn0.step)⟩
          · rw [if_neg c5] at H
            exact absurd H (by simp)
        · rw [if_neg c4] at H
          exact absurd H (by simp)
      · rw [if_neg c3] at H
        have c3b0 : decide ((wrap64 (x5_1 + (a1.size : Int))) ≤ (a0.size : Int)) = false := decide_eq_false c3
        clear c3
        obtain rfl := Option.some.inj H
        go_wp2
        go_ret
        exact ⟨by first | rfl | (simp; done) | (simp [*]; done) | (simp [bne_nil_]; done), by repeat (first | exact Drawn0.refl _ | apply Drawn0.step)⟩

/-! ### semantic_zzContains: function 38 -/
def semantic_zzContains.f (k : Nat) (a0 : ByteArray) (a1 : ByteArray) : Option (Bool) := (semantic_zzIndex.f k a0 a1).bind fun t101 => (some (decide (t101 ≥ 0)))
theorem semantic_zzContains.mono : ∀ a0 a1 k, LeO (semantic_zzContains.f k a0 a1) (semantic_zzContains.f (k + 1) a0 a1) := by
  intro a0 a1 k
  unfold semantic_zzContains.f
  repeat' first
      | (with_reducible exact semantic_zzIndex.mono _ _ _)
      | (with_reducible exact LeO.refl _)
      | (with_reducible exact LeO.none _)
      | (with_reducible refine LeO.ite ?_ ?_)
      | (with_reducible refine LeO.bind ?_ (fun _ => ?_))
      | exact semantic_zzIndex.mono _ _ _
      | exact LeO.none _
      | refine LeO.ite ?_ ?_
      | refine LeO.bind ?_ (fun _ => ?_)
set_option maxHeartbeats 8000000 in
set_option maxRecDepth 100000 in
theorem semantic_zzContains.calls (k : Nat) (a0 : ByteArray) (a1 : ByteArray) (r : Bool) (w : World) (h : semantic_zzContains.f k a0 a1 = some r) :
    Calls Tryz.prog 38 #[.string a0, .string a1] w fun e w' => e = .returned (.bool r) ∧ Drawn0 w w' := by
  have H : ((semantic_zzIndex.f k a0 a1).bind fun t101 => (some (decide (t101 ≥ 0)))) = some r := h
  clear h
  replace H := Option.bind_eq_some_iff.mp H
  obtain ⟨t101, A30, H⟩ := H
  replace H : (some (decide (t101 ≥ 0))) = some r := H
  have A3 := Aside0.mk A30
  clear A30
  obtain rfl := Option.some.inj H
  go_enter Tryz.func38, Tryz.ntmps38
  go_wp2_with (first | ((with_reducible refine gate_callee (f := 76) rfl ?_); refine goesL_ (some 7) rfl rfl Tryz.func76 (by kernel_rfl) rfl #[.string a0, .string a1] rfl (by (try simp only [List.map_toArray, List.map_cons, List.map_nil]); first | done | rfl | (simp only [List.length_drop, List.length_take]; rfl)) ?_; (with_reducible refine (semantic_zzIndex.calls k a0 a1 t101 _ A3.out).mono ?_); rintro e w' ⟨rfl, ⟨nd, rfl⟩⟩; refine ⟨_, rfl, ?_⟩))
  go_ret
  exact ⟨by first | rfl | (simp; done) | (simp [*]; done) | (simp [bne_nil_]; done), by repeat (first | exact Drawn0.refl _ | apply Drawn0.step)⟩

/-- THE ONE PURE STATEMENT of semantic_zzContains: yours. -/
def semantic_zzContains.Pure : Prop := ∀ (a0 : ByteArray) (a1 : ByteArray), a0.size ≤ 140737488351232 → a1.size ≤ 140737488351232 → ∃ k, semantic_zzContains.f k a0 a1 = some true
/-! ### semantic_zzSplit: function 45 -/
def semantic_zzSplit.l1 : Nat → ByteArray → ByteArray → List ByteArray → Option (List ByteArray)
  | 0, _, _, _ => none
  | k + 1, x0, x1, x5 => (semantic_zzIndex.f k x0 x1).bind fun t102 => (if t102 < 0 then (if x5.length < 8796093022208 then (some (x5 ++ [x0])) else (none)) else (if 0 ≤ t102 then (if t102 ≤ (x0.size : Int) then (if x5.length < 8796093022208 then (if 0 ≤ (wrap64 (t102 + (x1.size : Int))) then (if (wrap64 (t102 + (x1.size : Int))) ≤ (x0.size : Int) then (semantic_zzSplit.l1 k (x0.extract ((wrap64 (t102 + (x1.size : Int))) : Int).toNat x0.size) x1 (x5 ++ [x0.extract 0 (t102 : Int).toNat])) else (none)) else (none)) else (none)) else (none)) else (none)))
def semantic_zzSplit.f (k : Nat) (a0 : ByteArray) (a1 : ByteArray) : Option (List ByteArray) := if (a1.size : Int) = 0 then (none) else (semantic_zzSplit.l1 k a0 a1 ([] : List ByteArray))
theorem semantic_zzSplit.mono_l : ∀ k, (∀ y0 y1 y2, LeO (semantic_zzSplit.l1 k y0 y1 y2) (semantic_zzSplit.l1 (k + 1) y0 y1 y2))
  | 0 => fun _ _ _ r h => by simp [semantic_zzSplit.l1] at h
  | k + 1 => by
    have ih0 := semantic_zzSplit.mono_l k
    · intro y0 y1 y2
      unfold semantic_zzSplit.l1
      repeat' first
      | (with_reducible exact ih0 _ _ _)
      | (with_reducible exact semantic_zzIndex.mono _ _ _)
      | (with_reducible exact LeO.refl _)
      | (with_reducible exact LeO.none _)
      | (with_reducible refine LeO.ite ?_ ?_)
      | (with_reducible refine LeO.bind ?_ (fun _ => ?_))
      | exact ih0 _ _ _
      | exact semantic_zzIndex.mono _ _ _
      | exact LeO.none _
      | refine LeO.ite ?_ ?_
      | refine LeO.bind ?_ (fun _ => ?_)
theorem semantic_zzSplit.mono : ∀ a0 a1 k, LeO (semantic_zzSplit.f k a0 a1) (semantic_zzSplit.f (k + 1) a0 a1) := by
  intro a0 a1 k
  have ih0 := semantic_zzSplit.mono_l k
  unfold semantic_zzSplit.f
  repeat' first
      | (with_reducible exact ih0 _ _ _)
      | (with_reducible exact semantic_zzIndex.mono _ _ _)
      | (with_reducible exact LeO.refl _)
      | (with_reducible exact LeO.none _)
      | (with_reducible refine LeO.ite ?_ ?_)
      | (with_reducible refine LeO.bind ?_ (fun _ => ?_))
      | exact ih0 _ _ _
      | exact semantic_zzIndex.mono _ _ _
      | exact LeO.none _
      | refine LeO.ite ?_ ?_
      | refine LeO.bind ?_ (fun _ => ?_)
set_option maxHeartbeats 8000000 in
set_option maxRecDepth 100000 in
theorem semantic_zzSplit.calls (k : Nat) (a0 : ByteArray) (a1 : ByteArray) (r : List ByteArray) (w : World) (h : semantic_zzSplit.f k a0 a1 = some r) :
    Calls Tryz.prog 45 #[.string a0, .string a1] w fun e w' => ∃ v0_ : Value, e = .returned (v0_) ∧ Kd.R Kd.string 9 w' w.heap.size (fun _ => True) v0_ r ∧ Below w.heap.size w w' := by
  have HB := Aside0.mk (Below.refl w.heap.size w)
  have H : (if (a1.size : Int) = 0 then (none) else (semantic_zzSplit.l1 k a0 a1 ([] : List ByteArray))) = some r := h
  clear h
  by_cases c3 : (a1.size : Int) = 0
  · rw [if_pos c3] at H
    exact absurd H (by simp)
  · rw [if_neg c3] at H
    have c3b0 : ((a1.size : Int) == 0) = false := beq_eq_false_iff_ne.mpr c3
    have c3b1 : ((a1.size : Int) != 0) = true := bne_iff_ne.mpr c3
    have H' := Aside0.mk H
    clear H
    go_enter Tryz.func45, Tryz.ntmps45
    go_wp2
    go_loopg [0, 5] k (fun kq v0 v5 w' => ∃ (x0_1 : ByteArray) (x5_1 : List ByteArray), v0 = .string x0_1 ∧ Aside0 (semantic_zzSplit.l1 kq x0_1 a1 x5_1 = some r) ∧ Aside0 (kq ≤ k) ∧ Aside0 (Kd.R Kd.string 9 w' w.heap.size (fun _ => True) v5 x5_1) ∧ Aside0 (Below w.heap.size w w'))
    case atStart => exact ⟨(a0), (([] : List ByteArray)), (by first | rfl | (simp; done) | (simp [*]; done) | (simp [bne_nil_]; done)), H', ⟨Nat.le_refl _⟩, ⟨by first | exact Kd.R_nil _ _ _ _ _ | exact Kd.N_nil _ _ _ _ _ | exact Kd.V_nil _ _ _ _ _ | exact Kd.Q_nil _ _ _ _ _ | exact Kd.S_nil _ _ _ _ _⟩, ⟨by repeat (first | (with_reducible first | exact HB.out | apply below_alloc | apply pw_below_drewN | apply below_drew1) | exact HB.out)⟩⟩
    case round =>
      clear H'
      try clear p2
      try clear c3
      try clear c3b0
      try clear c3b1
      obtain ⟨x0_1, x5_1, rfl, HA, HK1, HO_5, HB⟩ := hrel
      cases gk with
      | zero => exact absurd HA.out (by simp [semantic_zzSplit.l1])
      | succ k1 =>
        have H := HA.out
        clear HA
        simp only [semantic_zzSplit.l1] at H
        replace H := Option.bind_eq_some_iff.mp H
        obtain ⟨t102, A40, H⟩ := H
        replace H : (if t102 < 0 then (if x5_1.length < 8796093022208 then (some (x5_1 ++ [x0_1])) else (none)) else (if 0 ≤ t102 then (if t102 ≤ (x0_1.size : Int) then (if x5_1.length < 8796093022208 then (if 0 ≤ (wrap64 (t102 + (a1.size : Int))) then (if (wrap64 (t102 + (a1.size : Int))) ≤ (x0_1.size : Int) then (semantic_zzSplit.l1 k1 (x0_1.extract ((wrap64 (t102 + (a1.size : Int))) : Int).toNat x0_1.size) a1 (x5_1 ++ [x0_1.extract 0 (t102 : Int).toNat])) else (none)) else (none)) else (none)) else (none)) else (none))) = some r := H
        have A4 := Aside0.mk A40
        clear A40
        by_cases c5 : t102 < 0
        · rw [if_pos c5] at H
          have c5b0 : decide (t102 < 0) = true := decide_eq_true c5
          clear c5
          by_cases c6 : x5_1.length < 8796093022208
          · rw [if_pos c6] at H
            have LMc6 := Aside0.mk c6
            clear c6
            obtain ⟨y103, hy103⟩ : ∃ y_ : List ByteArray, y_ = (x5_1 ++ [x0_1]) := ⟨_, rfl⟩
            replace H : (some y103) = some r := by first | (rw [hy103]; with_reducible exact H) | (have H2_ := (Option.bind_some _ _).symm.trans H; rw [hy103]; with_reducible exact H2_) | (have H2_ := (Option.bind_some _ _).symm.trans H; with_reducible exact H2_) | with_reducible exact H | (rw [hy103]; exact H) | exact H
            have Ny103 := Aside0.mk hy103
            clear hy103
            obtain rfl := Option.some.inj H
            go_wp2_with (first | ((with_reducible refine gate_callee (f := 76) rfl ?_); refine goesL_ (some 39) rfl rfl Tryz.func76 (by kernel_rfl) rfl #[.string x0_1, .string a1] rfl (by (try simp only [List.map_toArray, List.map_cons, List.map_nil]); first | done | rfl | (simp only [List.length_drop, List.length_take]; rfl)) ?_; (with_reducible refine (semantic_zzIndex.calls k1 x0_1 a1 t102 _ A4.out).mono ?_); rintro e w' ⟨rfl, ⟨nd, rfl⟩⟩; refine ⟨_, rfl, ?_⟩) | ((with_reducible refine gate_builtin (b := .append) (xs := #[.tmp 42, .tmp 44]) rfl ?_); at_builtin; refine Kd.R_append Kd.string (w0 := w) w.heap.size rfl (.tmp 42) (.tmp 44) 28 9 (.string ⟨#[]⟩) 16 rfl Tryz.underlying28 info9 rfl (by decide) (by omega) u5 x5_1 x0_1 [.string x0_1] (fun _ => True) (fun _ => False) rfl rfl ?aP (fun _ hk => hk.elim) ?aF ?aO ?aB ?aS ?aL ?_; (case aP => exact rfl); (case aB => exact (by repeat (first | (with_reducible first | exact HB.out | apply below_alloc | apply pw_below_drewN | apply below_drew1) | exact HB.out))); (case aF => exact (fun _ _ => trivial)); (case aO => exact (by (with_reducible repeat (first | apply Kd.R_alloc | apply Kd.R_drewN | apply Kd.R_drew)); exact HO_5.out)); (case aS => exact (below_size (by repeat (first | (with_reducible first | exact HB.out | apply below_alloc | apply pw_below_drewN | apply below_drew1) | exact HB.out)))); (case aL => have := LMc6.out; omega); intro v104 w7 ho hb hg hat; rw [← Ny103.out] at ho; have n0_ := Aside0.mk (hb); have n1_ := Aside0.mk (ho); clear HB; clear HO_5; have HB := n0_; have HO105 := n1_; clear n0_ n1_; clear ho hb hg hat))
            go_ret
            exact ⟨_, by first | rfl | (simp [errW_none, errW_some] <;> rfl) | (simp [*, errW_none, errW_some] <;> rfl) | (simp [bne_nil_]; done), by (with_reducible repeat (first | apply Kd.R_alloc | apply Kd.R_drewN | apply Kd.R_drew)); exact HO105.out, by repeat (first | (with_reducible first | exact HB.out | apply below_alloc | apply pw_below_drewN | apply below_drew1) | exact HB.out)⟩
          · rw [if_neg c6] at H
            exact absurd H (by simp)
        · rw [if_neg c5] at H
          have c5b0 : decide (t102 < 0) = false := decide_eq_false c5
          clear c5
          by_cases c8 : 0 ≤ t102
          · rw [if_pos c8] at H
            have c8b0 := eq_true c8
            have c8b1 : decide (0 ≤ t102) = true := decide_eq_true c8
            clear c8
            by_cases c9 : t102 ≤ (x0_1.size : Int)
            · rw [if_pos c9] at H
              have c9b0 := eq_true c9
              have c9b1 : decide (t102 ≤ (x0_1.size : Int)) = true := decide_eq_true c9
              clear c9
              by_cases c10 : x5_1.length < 8796093022208
              · rw [if_pos c10] at H
                have LMc10 := Aside0.mk c10
                clear c10
                obtain ⟨y106, hy106⟩ : ∃ y_ : List ByteArray, y_ = (x5_1 ++ [x0_1.extract 0 (t102 : Int).toNat]) := ⟨_, rfl⟩
                replace H : (if 0 ≤ (wrap64 (t102 + (a1.size : Int))) then (if (wrap64 (t102 + (a1.size : Int))) ≤ (x0_1.size : Int) then (semantic_zzSplit.l1 k1 (x0_1.extract ((wrap64 (t102 + (a1.size : Int))) : Int).toNat x0_1.size) a1 y106) else (none)) else (none)) = some r := by first | (rw [hy106]; with_reducible exact H) | (have H2_ := (Option.bind_some _ _).symm.trans H; rw [hy106]; with_reducible exact H2_) | (have H2_ := (Option.bind_some _ _).symm.trans H; with_reducible exact H2_) | with_reducible exact H | (rw [hy106]; exact H) | exact H
                have Ny106 := Aside0.mk hy106
                clear hy106
                obtain ⟨ji11, hji11⟩ : ∃ j_ : Int, (wrap64 (t102 + (a1.size : Int))) = j_ := ⟨_, rfl⟩
                replace H : (if 0 ≤ (ji11) then (if (ji11) ≤ (x0_1.size : Int) then (semantic_zzSplit.l1 k1 (x0_1.extract ((ji11) : Int).toNat x0_1.size) a1 y106) else (none)) else (none)) = some r := by first | (rw [hji11] at H; exact H) | (simp only [hji11] at H ⊢; exact H)
                (try rw [hji11] at A4)
                have hji11w : (IntKind.i64.wrap (t102 + (a1.size : Int))) = ji11 := (i64_w _).trans hji11
                by_cases c12 : 0 ≤ (ji11)
                · rw [if_pos c12] at H
                  have c12b0 := eq_true c12
                  have c12b1 : decide (0 ≤ (ji11)) = true := decide_eq_true c12
                  clear c12
                  by_cases c13 : (ji11) ≤ (x0_1.size : Int)
                  · rw [if_pos c13] at H
                    have c13b0 := eq_true c13
                    have c13b1 : decide ((ji11) ≤ (x0_1.size : Int)) = true := decide_eq_true c13
                    clear c13
                    have H' := Aside0.mk H
                    clear H
                    go_wp2_with (first | ((with_reducible refine gate_callee (f := 76) rfl ?_); refine goesL_ (some 39) rfl rfl Tryz.func76 (by kernel_rfl) rfl #[.string x0_1, .string a1] rfl (by (try simp only [List.map_toArray, List.map_cons, List.map_nil]); first | done | rfl | (simp only [List.length_drop, List.length_take]; rfl)) ?_; (with_reducible refine (semantic_zzIndex.calls k1 x0_1 a1 t102 _ A4.out).mono ?_); rintro e w' ⟨rfl, ⟨nd, rfl⟩⟩; refine ⟨_, rfl, ?_⟩) | ((with_reducible refine gate_builtin (b := .append) (xs := #[.tmp 46, .tmp 50]) rfl ?_); at_builtin; refine Kd.R_append Kd.string (w0 := w) w.heap.size rfl (.tmp 46) (.tmp 50) 28 9 (.string ⟨#[]⟩) 16 rfl Tryz.underlying28 info9 rfl (by decide) (by omega) u5 x5_1 (x0_1.extract 0 (t102 : Int).toNat) [.string (x0_1.extract 0 (t102 : Int).toNat)] (fun _ => True) (fun _ => False) rfl rfl ?aP (fun _ hk => hk.elim) ?aF ?aO ?aB ?aS ?aL ?_; (case aP => exact rfl); (case aB => exact (by repeat (first | (with_reducible first | exact HB.out | apply below_alloc | apply pw_below_drewN | apply below_drew1) | exact HB.out))); (case aF => exact (fun _ _ => trivial)); (case aO => exact (by (with_reducible repeat (first | apply Kd.R_alloc | apply Kd.R_drewN | apply Kd.R_drew)); exact HO_5.out)); (case aS => exact (below_size (by repeat (first | (with_reducible first | exact HB.out | apply below_alloc | apply pw_below_drewN | apply below_drew1) | exact HB.out)))); (case aL => have := LMc10.out; omega); intro v107 w14 ho hb hg hat; rw [← Ny106.out] at ho; have n0_ := Aside0.mk (hb); have n1_ := Aside0.mk (ho); clear HB; clear HO_5; have HB := n0_; have HO108 := n1_; clear n0_ n1_; clear ho hb hg hat))
                    go_roundg k1
                    case measure => have := HK1.out; omega
                    case rel => exact ⟨(x0_1.extract ((ji11) : Int).toNat x0_1.size), (y106), (by first | rfl | (simp; done) | (simp only [← hji11] <;> (first | rfl | simp)) | (simp [*]; done)), H', ⟨by have := HK1.out; omega⟩, ⟨by (with_reducible repeat (first | apply Kd.R_alloc | apply Kd.R_drewN | apply Kd.R_drew)); exact HO108.out⟩, ⟨by repeat (first | (with_reducible first | exact HB.out | apply below_alloc | apply pw_below_drewN | apply below_drew1) | exact HB.out)⟩⟩
                  · rw [if_neg c13] at H
                    exact absurd H (by simp)
                · rw [if_neg c12] at H
                  exact absurd H (by simp)
              · rw [if_neg c10] at H
                exact absurd H (by simp)
            · rw [if_neg c9] at H
              exact absurd H (by simp)
          · rw [if_neg c8] at H
            exact absurd H (by simp)

/-! ### semantic_zzReplaceAll: function 46 -/
def semantic_zzReplaceAll.l1 : Nat → ByteArray → ByteArray → ByteArray → List Int → Option (ByteArray)
  | 0, _, _, _, _ => none
  | k + 1, x0, x1, x2, x7 => (semantic_zzIndex.f k x0 x1).bind fun t112 => (if t112 < 0 then (if x7.length + x0.size < 140737488355328 then (some (strOfNums (x7 ++ bytesOf x0))) else (none)) else (if 0 ≤ t112 then (if t112 ≤ (x0.size : Int) then (if x7.length + (x0.extract 0 (t112 : Int).toNat).size < 140737488355328 then ((some (x7 ++ bytesOf (x0.extract 0 (t112 : Int).toNat) : List Int)).bind fun y116 => (if y116.length + x2.size < 140737488355328 then (if 0 ≤ (wrap64 (t112 + (x1.size : Int))) then (if (wrap64 (t112 + (x1.size : Int))) ≤ (x0.size : Int) then (semantic_zzReplaceAll.l1 k (x0.extract ((wrap64 (t112 + (x1.size : Int))) : Int).toNat x0.size) x1 x2 (y116 ++ bytesOf x2)) else (none)) else (none)) else (none))) else (none)) else (none)) else (none)))
def semantic_zzReplaceAll.f (k : Nat) (a0 : ByteArray) (a1 : ByteArray) (a2 : ByteArray) : Option (ByteArray) := if (a1.size : Int) = 0 then (if ([] : List Int).length + a2.size < 140737488355328 then (none) else (none)) else (semantic_zzReplaceAll.l1 k a0 a1 a2 ([] : List Int))
theorem semantic_zzReplaceAll.mono_l : ∀ k, (∀ y0 y1 y2 y3, LeO (semantic_zzReplaceAll.l1 k y0 y1 y2 y3) (semantic_zzReplaceAll.l1 (k + 1) y0 y1 y2 y3))
  | 0 => fun _ _ _ _ r h => by simp [semantic_zzReplaceAll.l1] at h
  | k + 1 => by
    have ih0 := semantic_zzReplaceAll.mono_l k
    · intro y0 y1 y2 y3
      unfold semantic_zzReplaceAll.l1
      repeat' first
      | (with_reducible exact ih0 _ _ _ _)
      | (with_reducible exact semantic_zzIndex.mono _ _ _)
      | (with_reducible exact LeO.refl _)
      | (with_reducible exact LeO.none _)
      | (with_reducible refine LeO.ite ?_ ?_)
      | (with_reducible refine LeO.bind ?_ (fun _ => ?_))
      | exact ih0 _ _ _ _
      | exact semantic_zzIndex.mono _ _ _
      | exact LeO.none _
      | refine LeO.ite ?_ ?_
      | refine LeO.bind ?_ (fun _ => ?_)
theorem semantic_zzReplaceAll.mono : ∀ a0 a1 a2 k, LeO (semantic_zzReplaceAll.f k a0 a1 a2) (semantic_zzReplaceAll.f (k + 1) a0 a1 a2) := by
  intro a0 a1 a2 k
  have ih0 := semantic_zzReplaceAll.mono_l k
  unfold semantic_zzReplaceAll.f
  repeat' first
      | (with_reducible exact ih0 _ _ _ _)
      | (with_reducible exact semantic_zzIndex.mono _ _ _)
      | (with_reducible exact LeO.refl _)
      | (with_reducible exact LeO.none _)
      | (with_reducible refine LeO.ite ?_ ?_)
      | (with_reducible refine LeO.bind ?_ (fun _ => ?_))
      | exact ih0 _ _ _ _
      | exact semantic_zzIndex.mono _ _ _
      | exact LeO.none _
      | refine LeO.ite ?_ ?_
      | refine LeO.bind ?_ (fun _ => ?_)
set_option maxHeartbeats 8000000 in
set_option maxRecDepth 100000 in
theorem semantic_zzReplaceAll.calls (k : Nat) (a0 : ByteArray) (a1 : ByteArray) (a2 : ByteArray) (r : ByteArray) (w : World) (h : semantic_zzReplaceAll.f k a0 a1 a2 = some r) :
    Calls Tryz.prog 46 #[.string a0, .string a1, .string a2] w fun e w' => e = .returned (.string r) ∧ Below w.heap.size w w' := by
  have HB := Aside0.mk (Below.refl w.heap.size w)
  have H : (if (a1.size : Int) = 0 then (if ([] : List Int).length + a2.size < 140737488355328 then (none) else (none)) else (semantic_zzReplaceAll.l1 k a0 a1 a2 ([] : List Int))) = some r := h
  clear h
  by_cases c4 : (a1.size : Int) = 0
  · rw [if_pos c4] at H
    have c4b0 : ((a1.size : Int) == 0) = true := beq_iff_eq.mpr c4
    have c4b1 : ((a1.size : Int) != 0) = false := bne_eq_false_iff_eq.mpr c4
    clear c4
    by_cases c5 : ([] : List Int).length + a2.size < 140737488355328
    · rw [if_pos c5] at H
      have LMc5 := Aside0.mk c5
      clear c5
      obtain ⟨y109, hy109⟩ : ∃ y_ : List Int, y_ = (([] : List Int) ++ bytesOf a2) := ⟨_, rfl⟩
      replace H : (none) = some r := by first | (rw [hy109]; with_reducible exact H) | (have H2_ := (Option.bind_some _ _).symm.trans H; rw [hy109]; with_reducible exact H2_) | (have H2_ := (Option.bind_some _ _).symm.trans H; with_reducible exact H2_) | with_reducible exact H | (rw [hy109]; exact H) | exact H
      have Ny109 := Aside0.mk hy109
      clear hy109
      exact absurd H (by simp)
    · rw [if_neg c5] at H
      exact absurd H (by simp)
  · rw [if_neg c4] at H
    have c4b0 : ((a1.size : Int) == 0) = false := beq_eq_false_iff_ne.mpr c4
    have c4b1 : ((a1.size : Int) != 0) = true := bne_iff_ne.mpr c4
    have H' := Aside0.mk H
    clear H
    go_enter Tryz.func46, Tryz.ntmps46
    go_wp2
    go_loopg [0, 7] k (fun kq v0 v7 w' => ∃ (x0_1 : ByteArray) (x7_1 : List Int), v0 = .string x0_1 ∧ Aside0 (semantic_zzReplaceAll.l1 kq x0_1 a1 a2 x7_1 = some r) ∧ Aside0 (kq ≤ k) ∧ Aside0 (Kd.R (Kd.int .u8) 5 w' w.heap.size (fun _ => True) v7 x7_1) ∧ Aside0 (Below w.heap.size w w'))
    case atStart => exact ⟨(a0), (([] : List Int)), (by first | rfl | (simp; done) | (simp [*]; done) | (simp [bne_nil_]; done)), H', ⟨Nat.le_refl _⟩, ⟨by first | exact Kd.R_nil _ _ _ _ _ | exact Kd.N_nil _ _ _ _ _ | exact Kd.V_nil _ _ _ _ _ | exact Kd.Q_nil _ _ _ _ _ | exact Kd.S_nil _ _ _ _ _⟩, ⟨by repeat (first | (with_reducible first | exact HB.out | apply below_alloc | apply pw_below_drewN | apply below_drew1) | exact HB.out)⟩⟩
    case round =>
      clear H'
      try clear p2
      try clear c4
      try clear c4b0
      try clear c4b1
      try clear c5
      obtain ⟨x0_1, x7_1, rfl, HA, HK1, HO_7, HB⟩ := hrel
      cases gk with
      | zero => exact absurd HA.out (by simp [semantic_zzReplaceAll.l1])
      | succ k1 =>
        have H := HA.out
        clear HA
        simp only [semantic_zzReplaceAll.l1] at H
        replace H := Option.bind_eq_some_iff.mp H
        obtain ⟨t112, A60, H⟩ := H
        replace H : (if t112 < 0 then (if x7_1.length + x0_1.size < 140737488355328 then (some (strOfNums (x7_1 ++ bytesOf x0_1))) else (none)) else (if 0 ≤ t112 then (if t112 ≤ (x0_1.size : Int) then (if x7_1.length + (x0_1.extract 0 (t112 : Int).toNat).size < 140737488355328 then ((some (x7_1 ++ bytesOf (x0_1.extract 0 (t112 : Int).toNat) : List Int)).bind fun y116 => (if y116.length + a2.size < 140737488355328 then (if 0 ≤ (wrap64 (t112 + (a1.size : Int))) then (if (wrap64 (t112 + (a1.size : Int))) ≤ (x0_1.size : Int) then (semantic_zzReplaceAll.l1 k1 (x0_1.extract ((wrap64 (t112 + (a1.size : Int))) : Int).toNat x0_1.size) a1 a2 (y116 ++ bytesOf a2)) else (none)) else (none)) else (none))) else (none)) else (none)) else (none))) = some r := H
        have A6 := Aside0.mk A60
        clear A60
        by_cases c7 : t112 < 0
        · rw [if_pos c7] at H
          have c7b0 : decide (t112 < 0) = true := decide_eq_true c7
          clear c7
          by_cases c8 : x7_1.length + x0_1.size < 140737488355328
          · rw [if_pos c8] at H
            have LMc8 := Aside0.mk c8
            clear c8
            obtain ⟨y113, hy113⟩ : ∃ y_ : List Int, y_ = (x7_1 ++ bytesOf x0_1) := ⟨_, rfl⟩
            replace H : (some (strOfNums y113)) = some r := by first | (rw [hy113]; with_reducible exact H) | (have H2_ := (Option.bind_some _ _).symm.trans H; rw [hy113]; with_reducible exact H2_) | (have H2_ := (Option.bind_some _ _).symm.trans H; with_reducible exact H2_) | with_reducible exact H | (rw [hy113]; exact H) | exact H
            have Ny113 := Aside0.mk hy113
            clear hy113
            obtain rfl := Option.some.inj H
            go_wp2_with (first | ((with_reducible refine gate_callee (f := 76) rfl ?_); refine goesL_ (some 47) rfl rfl Tryz.func76 (by kernel_rfl) rfl #[.string x0_1, .string a1] rfl (by (try simp only [List.map_toArray, List.map_cons, List.map_nil]); first | done | rfl | (simp only [List.length_drop, List.length_take]; rfl)) ?_; (with_reducible refine (semantic_zzIndex.calls k1 x0_1 a1 t112 _ A6.out).mono ?_); rintro e w' ⟨rfl, ⟨nd, rfl⟩⟩; refine ⟨_, rfl, ?_⟩) | (at_builtin; refine print_append_str (w0 := w) w.heap.size rfl (.tmp 50) _ 111 9 5 rfl Tryz.underlying111 Tryz.underlying9 info5 u7 x7_1 x0_1 rfl rfl ?aO ?aB ?aS ?aL ?_; (case aB => exact (by repeat (first | (with_reducible first | exact HB.out | apply below_alloc | apply pw_below_drewN | apply below_drew1) | exact HB.out))); (case aO => exact (Kd.own_of_R (by (with_reducible repeat (first | apply Kd.R_alloc | apply Kd.R_drewN | apply Kd.R_drew)); exact HO_7.out))); (case aS => exact (below_size (by repeat (first | (with_reducible first | exact HB.out | apply below_alloc | apply pw_below_drewN | apply below_drew1) | exact HB.out)))); (case aL => have := LMc8.out; omega); intro v114 w9 ho0 hb hg; have ho := Kd.R_of_own (h1 := fun _ => rfl) (ok := fun _ => True) ho0 (fun _ _ => trivial); clear ho0; have hat := True.intro; rw [← Ny113.out] at ho; change Kd.R (Kd.int .u8) 5 w9 w.heap.size (fun _ => True) v114 y113 at ho; have n0_ := Aside0.mk (hb); have n1_ := Aside0.mk (ho); clear HB; clear HO_7; have HB := n0_; have HO115 := n1_; clear n0_ n1_; clear ho hb hg hat; have hcv10 := own_string (P := Tryz.prog) Tryz.underlying111 Tryz.underlying5 Tryz.underlying9 (Kd.own_of_R HO115.out)))
            go_ret
            exact ⟨by first | rfl | (simp [errW_none, errW_some] <;> rfl) | (simp [*, errW_none, errW_some] <;> rfl) | (simp [bne_nil_]; done), by repeat (first | (with_reducible first | exact HB.out | apply below_alloc | apply pw_below_drewN | apply below_drew1) | exact HB.out)⟩
          · rw [if_neg c8] at H
            exact absurd H (by simp)
        · rw [if_neg c7] at H
          have c7b0 : decide (t112 < 0) = false := decide_eq_false c7
          clear c7
          by_cases c11 : 0 ≤ t112
          · rw [if_pos c11] at H
            have c11b0 := eq_true c11
            have c11b1 : decide (0 ≤ t112) = true := decide_eq_true c11
            clear c11
            by_cases c12 : t112 ≤ (x0_1.size : Int)
            · rw [if_pos c12] at H
              have c12b0 := eq_true c12
              have c12b1 : decide (t112 ≤ (x0_1.size : Int)) = true := decide_eq_true c12
              clear c12
              by_cases c13 : x7_1.length + (x0_1.extract 0 (t112 : Int).toNat).size < 140737488355328
              · rw [if_pos c13] at H
                have LMc13 := Aside0.mk c13
                clear c13
                obtain ⟨y116, hy116⟩ : ∃ y_ : List Int, y_ = (x7_1 ++ bytesOf (x0_1.extract 0 (t112 : Int).toNat)) := ⟨_, rfl⟩
                replace H : (if y116.length + a2.size < 140737488355328 then (if 0 ≤ (wrap64 (t112 + (a1.size : Int))) then (if (wrap64 (t112 + (a1.size : Int))) ≤ (x0_1.size : Int) then (semantic_zzReplaceAll.l1 k1 (x0_1.extract ((wrap64 (t112 + (a1.size : Int))) : Int).toNat x0_1.size) a1 a2 (y116 ++ bytesOf a2)) else (none)) else (none)) else (none)) = some r := by first | (rw [hy116]; with_reducible exact H) | (have H2_ := (Option.bind_some _ _).symm.trans H; rw [hy116]; with_reducible exact H2_) | (have H2_ := (Option.bind_some _ _).symm.trans H; with_reducible exact H2_) | with_reducible exact H | (rw [hy116]; exact H) | exact H
                have Ny116 := Aside0.mk hy116
                clear hy116
                by_cases c14 : y116.length + a2.size < 140737488355328
                · rw [if_pos c14] at H
                  have LMc14 := Aside0.mk c14
                  clear c14
                  obtain ⟨y119, hy119⟩ : ∃ y_ : List Int, y_ = (y116 ++ bytesOf a2) := ⟨_, rfl⟩
                  replace H : (if 0 ≤ (wrap64 (t112 + (a1.size : Int))) then (if (wrap64 (t112 + (a1.size : Int))) ≤ (x0_1.size : Int) then (semantic_zzReplaceAll.l1 k1 (x0_1.extract ((wrap64 (t112 + (a1.size : Int))) : Int).toNat x0_1.size) a1 a2 y119) else (none)) else (none)) = some r := by first | (rw [hy119]; with_reducible exact H) | (have H2_ := (Option.bind_some _ _).symm.trans H; rw [hy119]; with_reducible exact H2_) | (have H2_ := (Option.bind_some _ _).symm.trans H; with_reducible exact H2_) | with_reducible exact H | (rw [hy119]; exact H) | exact H
                  have Ny119 := Aside0.mk hy119
                  clear hy119
                  obtain ⟨ji15, hji15⟩ : ∃ j_ : Int, (wrap64 (t112 + (a1.size : Int))) = j_ := ⟨_, rfl⟩
                  replace H : (if 0 ≤ (ji15) then (if (ji15) ≤ (x0_1.size : Int) then (semantic_zzReplaceAll.l1 k1 (x0_1.extract ((ji15) : Int).toNat x0_1.size) a1 a2 y119) else (none)) else (none)) = some r := by first | (rw [hji15] at H; exact H) | (simp only [hji15] at H ⊢; exact H)
                  (try rw [hji15] at A6)
                  have hji15w : (IntKind.i64.wrap (t112 + (a1.size : Int))) = ji15 := (i64_w _).trans hji15
                  by_cases c16 : 0 ≤ (ji15)
                  · rw [if_pos c16] at H
                    have c16b0 := eq_true c16
                    have c16b1 : decide (0 ≤ (ji15)) = true := decide_eq_true c16
                    clear c16
                    by_cases c17 : (ji15) ≤ (x0_1.size : Int)
                    · rw [if_pos c17] at H
                      have c17b0 := eq_true c17
                      have c17b1 : decide ((ji15) ≤ (x0_1.size : Int)) = true := decide_eq_true c17
                      clear c17
                      have H' := Aside0.mk H
                      clear H
                      go_wp2_with (first | ((with_reducible refine gate_callee (f := 76) rfl ?_); refine goesL_ (some 47) rfl rfl Tryz.func76 (by kernel_rfl) rfl #[.string x0_1, .string a1] rfl (by (try simp only [List.map_toArray, List.map_cons, List.map_nil]); first | done | rfl | (simp only [List.length_drop, List.length_take]; rfl)) ?_; (with_reducible refine (semantic_zzIndex.calls k1 x0_1 a1 t112 _ A6.out).mono ?_); rintro e w' ⟨rfl, ⟨nd, rfl⟩⟩; refine ⟨_, rfl, ?_⟩) | (at_builtin; refine print_append_str (w0 := w) w.heap.size rfl (.tmp 54) _ 111 9 5 rfl Tryz.underlying111 Tryz.underlying9 info5 u7 x7_1 (x0_1.extract 0 (t112 : Int).toNat) rfl rfl ?aO ?aB ?aS ?aL ?_; (case aB => exact (by repeat (first | (with_reducible first | exact HB.out | apply below_alloc | apply pw_below_drewN | apply below_drew1) | exact HB.out))); (case aO => exact (Kd.own_of_R (by (with_reducible repeat (first | apply Kd.R_alloc | apply Kd.R_drewN | apply Kd.R_drew)); exact HO_7.out))); (case aS => exact (below_size (by repeat (first | (with_reducible first | exact HB.out | apply below_alloc | apply pw_below_drewN | apply below_drew1) | exact HB.out)))); (case aL => have := LMc13.out; omega); intro v117 w18 ho0 hb hg; have ho := Kd.R_of_own (h1 := fun _ => rfl) (ok := fun _ => True) ho0 (fun _ _ => trivial); clear ho0; have hat := True.intro; rw [← Ny116.out] at ho; change Kd.R (Kd.int .u8) 5 w18 w.heap.size (fun _ => True) v117 y116 at ho; have n0_ := Aside0.mk (hb); have n1_ := Aside0.mk (ho); clear HB; clear HO_7; have HB := n0_; have HO118 := n1_; clear n0_ n1_; clear ho hb hg hat) | (at_builtin; refine print_append_str (w0 := w) w.heap.size rfl (.tmp 58) _ 111 9 5 rfl Tryz.underlying111 Tryz.underlying9 info5 v117 y116 a2 rfl rfl ?aO ?aB ?aS ?aL ?_; (case aB => exact (by repeat (first | (with_reducible first | exact HB.out | apply below_alloc | apply pw_below_drewN | apply below_drew1) | exact HB.out))); (case aO => exact (Kd.own_of_R (by (with_reducible repeat (first | apply Kd.R_alloc | apply Kd.R_drewN | apply Kd.R_drew)); exact HO118.out))); (case aS => exact (below_size (by repeat (first | (with_reducible first | exact HB.out | apply below_alloc | apply pw_below_drewN | apply below_drew1) | exact HB.out)))); (case aL => have := LMc14.out; omega); intro v120 w19 ho0 hb hg; have ho := Kd.R_of_own (h1 := fun _ => rfl) (ok := fun _ => True) ho0 (fun _ _ => trivial); clear ho0; have hat := True.intro; rw [← Ny119.out] at ho; change Kd.R (Kd.int .u8) 5 w19 w.heap.size (fun _ => True) v120 y119 at ho; have n0_ := Aside0.mk (hb); have n1_ := Aside0.mk (ho); clear HB; clear HO118; have HB := n0_; have HO121 := n1_; clear n0_ n1_; clear ho hb hg hat))
                      go_roundg k1
                      case measure => have := HK1.out; omega
                      case rel => exact ⟨(x0_1.extract ((ji15) : Int).toNat x0_1.size), (y119), (by first | rfl | (simp; done) | (simp only [← hji15] <;> (first | rfl | simp)) | (simp [*]; done)), H', ⟨by have := HK1.out; omega⟩, ⟨by (with_reducible repeat (first | apply Kd.R_alloc | apply Kd.R_drewN | apply Kd.R_drew)); exact HO121.out⟩, ⟨by repeat (first | (with_reducible first | exact HB.out | apply below_alloc | apply pw_below_drewN | apply below_drew1) | exact HB.out)⟩⟩
                    · rw [if_neg c17] at H
                      exact absurd H (by simp)
                  · rw [if_neg c16] at H
                    exact absurd H (by simp)
                · rw [if_neg c14] at H
                  exact absurd H (by simp)
              · rw [if_neg c13] at H
                exact absurd H (by simp)
            · rw [if_neg c12] at H
              exact absurd H (by simp)
          · rw [if_neg c11] at H
            exact absurd H (by simp)

end Go.Proofs.YtnbpoplomdocjaaGreatDoor.QC
