-- Written by a working copy of the kit's print program, turned at a few places by wip/tool/mkprint.py. Lean checks it.
import Derived.Test.YtdliagehkiihpaaGreatDoorQGx0
import Derived.Test.YtdliagehkiihpaaGreatDoorQGx1
import Derived.Test.YtdliagehkiihpaaGreatDoorQGx2
namespace Go.Proofs.YtdliagehkiihpaaGreatDoor.QG
open Go.RowKit Go.Proofs.YtdliagehkiihpaaGreatDoorW.PrintWords Go.Proofs.YtdliagehkiihpaaGreatDoorW.PrintLast Go.Proofs.YtdliagehkiihpaaGreatDoorW.PrintMore
attribute [local go_sem] max2_int min2_int max_two min_two max_three min_three max_four min_four   -- for this text's walks alone
set_option linter.unusedVariables false
set_option linter.unusedSimpArgs false

-- LEFT OUT: function 71

-- LEFT OUT: function 114

-- LEFT OUT: function 107

-- LEFT OUT: function 239

-- LEFT OUT: function 236

-- LEFT OUT: function 242

-- LEFT OUT: function 240

-- LEFT OUT: function 243

-- LEFT OUT: function 244

-- LEFT OUT: function 245

-- LEFT OUT: function 248

-- LEFT OUT: function 246

-- LEFT OUT: function 249

-- LEFT OUT: function 247

-- LEFT OUT: function 238

-- LEFT OUT: function 250

-- LEFT OUT: function 241

-- LEFT OUT: function 237

-- LEFT OUT: function 227

-- LEFT OUT: function 205

-- LEFT OUT: function 172

-- LEFT OUT: function 155

-- LEFT OUT: function 140

-- LEFT OUT: function 124

-- LEFT OUT: function 126

-- LEFT OUT: function 112

-- LEFT OUT: function 103

-- LEFT OUT: function 88

-- LEFT OUT: function 89

-- LEFT OUT: function 67

-- LEFT OUT: function 48

-- LEFT OUT: function 31

-- LEFT OUT: function 104

-- LEFT OUT: function 90

-- LEFT OUT: function 68

-- LEFT OUT: function 70

-- LEFT OUT: function 105

-- LEFT OUT: function 94

-- LEFT OUT: function 72

-- LEFT OUT: function 50

-- LEFT OUT: function 95

-- LEFT OUT: function 92

-- LEFT OUT: function 91

-- LEFT OUT: function 69

-- LEFT OUT: function 75

-- LEFT OUT: function 55

-- LEFT OUT: function 32

-- GIVEN: function 15 (impl_PubCompareText)

/-! ### laws_FnPubPage: function 4 -/
mutual
def laws_FnPubPage.j0 : Nat → ByteArray → ByteArray → Bool → Option (Bool)
 | 0, _, _, _ => none
 | k + 1, x0, x1, x16 => if x16 = true then (some true) else ((laws_short.f k (([x0, x1] : List ByteArray))).bind fun t183 => (if t183 = true then ((spec_Precedence.f k x0 x1 3 3 false).bind fun bt184 => (if bt184.2 = true then (laws_FnPubPage.j1 k x0 x1 bt184.1 bt184.2 (bt184.1 == 0)) else (laws_FnPubPage.j1 k x0 x1 bt184.1 bt184.2 false))) else (some true)))
def laws_FnPubPage.j1 : Nat → ByteArray → ByteArray → Int → Bool → Bool → Option (Bool)
 | 0, _, _, _, _, _ => none
 | k + 1, x0, x1, x5, x6, x32 => if x32 = true then ((spec_BuildOrder.f k x0 x1).bind fun bt186 => (if bt186.2 = true then ((Giv.impl_PubCompareText.f x0 x1).bind fun bt188 => (if bt188.2 = true then (some (bt188.1 == bt186.1)) else (some false))) else (some true))) else (if x6 = true then ((Giv.impl_PubCompareText.f x0 x1).bind fun bt190 => (if bt190.2 = true then (some (bt190.1 == x5)) else (some false))) else (some true))
end
def laws_FnPubPage.f (k : Nat) (a0 : ByteArray) (a1 : ByteArray) : Option (Bool) := if (a0.size : Int) > 2147483647 then (laws_FnPubPage.j0 k a0 a1 true) else (laws_FnPubPage.j0 k a0 a1 (decide ((a1.size : Int) > 2147483647)))
theorem laws_FnPubPage.mono_l : ∀ k, (∀ y0 y1 y2, LeO (laws_FnPubPage.j0 k y0 y1 y2) (laws_FnPubPage.j0 (k + 1) y0 y1 y2)) ∧ (∀ y0 y1 y2 y3 y4, LeO (laws_FnPubPage.j1 k y0 y1 y2 y3 y4) (laws_FnPubPage.j1 (k + 1) y0 y1 y2 y3 y4))
 | 0 => ⟨fun _ _ _ r h => by simp [laws_FnPubPage.j0] at h, fun _ _ _ _ _ r h => by simp [laws_FnPubPage.j1] at h⟩
 | k + 1 => by
  obtain ⟨ih0, ih1⟩ := laws_FnPubPage.mono_l k
  refine ⟨?_, ?_⟩
  · intro y0 y1 y2
    unfold laws_FnPubPage.j0
    repeat' first
    | (with_reducible exact ih0 _ _ _)
    | (with_reducible exact ih1 _ _ _ _ _)
    | (with_reducible exact laws_short.mono _ _)
    | (with_reducible exact spec_BuildOrder.mono _ _ _)
    | (with_reducible exact spec_Precedence.mono _ _ _ _ _ _)
    | (with_reducible exact LeO.refl _)
    | (with_reducible exact LeO.none _)
    | (with_reducible refine LeO.ite ?_ ?_)
    | (with_reducible refine LeO.bind ?_ (fun _ => ?_))
    | exact ih0 _ _ _
    | exact ih1 _ _ _ _ _
    | exact laws_short.mono _ _
    | exact spec_BuildOrder.mono _ _ _
    | exact spec_Precedence.mono _ _ _ _ _ _
    | exact LeO.none _
    | refine LeO.ite ?_ ?_
    | refine LeO.bind ?_ (fun _ => ?_)
  · intro y0 y1 y2 y3 y4
    unfold laws_FnPubPage.j1
    repeat' first
    | (with_reducible exact ih0 _ _ _)
    | (with_reducible exact ih1 _ _ _ _ _)
    | (with_reducible exact laws_short.mono _ _)
    | (with_reducible exact spec_BuildOrder.mono _ _ _)
    | (with_reducible exact spec_Precedence.mono _ _ _ _ _ _)
    | (with_reducible exact LeO.refl _)
    | (with_reducible exact LeO.none _)
    | (with_reducible refine LeO.ite ?_ ?_)
    | (with_reducible refine LeO.bind ?_ (fun _ => ?_))
    | exact ih0 _ _ _
    | exact ih1 _ _ _ _ _
    | exact laws_short.mono _ _
    | exact spec_BuildOrder.mono _ _ _
    | exact spec_Precedence.mono _ _ _ _ _ _
    | exact LeO.none _
    | refine LeO.ite ?_ ?_
    | refine LeO.bind ?_ (fun _ => ?_)
theorem laws_FnPubPage.mono : ∀ a0 a1 k, LeO (laws_FnPubPage.f k a0 a1) (laws_FnPubPage.f (k + 1) a0 a1) := by
 intro a0 a1 k
 obtain ⟨ih0, ih1⟩ := laws_FnPubPage.mono_l k
 unfold laws_FnPubPage.f
 repeat' first
  | (with_reducible exact ih0 _ _ _)
  | (with_reducible exact ih1 _ _ _ _ _)
  | (with_reducible exact laws_short.mono _ _)
  | (with_reducible exact spec_BuildOrder.mono _ _ _)
  | (with_reducible exact spec_Precedence.mono _ _ _ _ _ _)
  | (with_reducible exact LeO.refl _)
  | (with_reducible exact LeO.none _)
  | (with_reducible refine LeO.ite ?_ ?_)
  | (with_reducible refine LeO.bind ?_ (fun _ => ?_))
  | exact ih0 _ _ _
  | exact ih1 _ _ _ _ _
  | exact laws_short.mono _ _
  | exact spec_BuildOrder.mono _ _ _
  | exact spec_Precedence.mono _ _ _ _ _ _
  | exact LeO.none _
  | refine LeO.ite ?_ ?_
  | refine LeO.bind ?_ (fun _ => ?_)
set_option maxHeartbeats 8000000 in
set_option maxRecDepth 100000 in
theorem laws_FnPubPage.calls (k : Nat) (a0 : ByteArray) (a1 : ByteArray) (r : Bool) (w : World) (h : laws_FnPubPage.f k a0 a1 = some r) (hL : Giv.Laid w) :
 Calls Tryz.prog 4 #[.string a0, .string a1] w fun e w' => e = .returned (.bool r) ∧ Below w.heap.size w w' := by
 have HLd := Aside0.mk hL
 clear hL
 have HB := Aside0.mk (Below.refl w.heap.size w)
 have H : (if (a0.size : Int) > 2147483647 then (laws_FnPubPage.j0 k a0 a1 true) else (laws_FnPubPage.j0 k a0 a1 (decide ((a1.size : Int) > 2147483647)))) = some r := h
 clear h
 have HC3 := Aside0.mk H
 clear H
 go_enter Tryz.func4, Tryz.ntmps4
 go_upto_region 1 with (fail)
 go_cut [16] (fun v16 wc => ∃ (kq : Nat) (x16_2 : Bool), v16 = .bool x16_2 ∧ Aside0 (laws_FnPubPage.j0 kq a0 a1 x16_2 = some r) ∧ Aside0 (kq ≤ k) ∧ Aside0 (Below w.heap.size w wc))
 case first =>
  have H := HC3.out
  clear HC3
  by_cases c4 : (a0.size : Int) > 2147483647
  · rw [if_pos c4] at H
    have c4b0 : decide (2147483647 < (a0.size : Int)) = true := decide_eq_true c4
    have c4b1 : decide (2147483647 < a0.size) = true := decide_eq_true (by omega)
    clear c4
    (first | rw [c4b0] | (simp only [i64_w, i32_w]; rw [c4b0]) | skip)
    have H' := Aside0.mk H
    clear H
    go_wp2
    go_meet
    case rel => exact ⟨_, (true), (by first | rfl | (simp; done) | (simp [*]; done) | (simp [bne_nil_]; done)), H', ⟨by first | omega | exact Nat.le_refl _⟩, ⟨by repeat (first | (with_reducible first | exact HB.out | apply below_alloc | apply pw_below_drewN | apply below_drew1) | exact HB.out)⟩⟩
  · rw [if_neg c4] at H
    have c4b0 : decide (2147483647 < (a0.size : Int)) = false := decide_eq_false c4
    have c4b1 : decide (2147483647 < a0.size) = false := decide_eq_false (by omega)
    clear c4
    (first | rw [c4b0] | (simp only [i64_w, i32_w]; rw [c4b0]) | skip)
    have H' := Aside0.mk H
    clear H
    go_wp2
    go_meet
    case rel => exact ⟨_, (decide ((a1.size : Int) > 2147483647)), (by first | rfl | (simp; done) | (simp [*]; done) | (simp [bne_nil_]; done)), H', ⟨by first | omega | exact Nat.le_refl _⟩, ⟨by repeat (first | (with_reducible first | exact HB.out | apply below_alloc | apply pw_below_drewN | apply below_drew1) | exact HB.out)⟩⟩
 case rest =>
  clear HC3
  try clear p2
  try clear c4
  try clear c4b0
  try clear c4b1
  obtain ⟨kq, x16_2, rfl, HA, HJ2, HB⟩ := hcut
  cases kq with
  | zero => exact absurd HA.out (by simp [laws_FnPubPage.j0])
  | succ kj2 =>
   have H := HA.out
   clear HA
   simp only [laws_FnPubPage.j0] at H
   by_cases c5 : x16_2 = true
   · subst c5
     have H1 : (some true) = some r := by rw [if_pos rfl] at H; exact H
     clear H
     have H := H1
     clear H1
     obtain rfl := Option.some.inj H
     go_wp2
     go_ret
     exact ⟨by first | rfl | (simp [errW_none, errW_some] <;> rfl) | (simp [*, errW_none, errW_some] <;> rfl) | (simp [bne_nil_]; done), by repeat (first | (with_reducible first | exact HB.out | apply below_alloc | apply pw_below_drewN | apply below_drew1) | exact HB.out)⟩
   · replace c5 := Bool.eq_false_iff.mpr c5
     subst c5
     have H1 : ((laws_short.f kj2 (([a0, a1] : List ByteArray))).bind fun t183 => (if t183 = true then ((spec_Precedence.f kj2 a0 a1 3 3 false).bind fun bt184 => (if bt184.2 = true then (laws_FnPubPage.j1 kj2 a0 a1 bt184.1 bt184.2 (bt184.1 == 0)) else (laws_FnPubPage.j1 kj2 a0 a1 bt184.1 bt184.2 false))) else (some true))) = some r := by rw [if_neg (show ¬ (false = true) by decide)] at H; exact H
     clear H
     have H := H1
     clear H1
     obtain ⟨y180, hy180⟩ : ∃ y_ : List ByteArray, y_ = (([a0, a1] : List ByteArray)) := ⟨_, rfl⟩
     replace H : ((laws_short.f kj2 y180).bind fun t183 => (if t183 = true then ((spec_Precedence.f kj2 a0 a1 3 3 false).bind fun bt184 => (if bt184.2 = true then (laws_FnPubPage.j1 kj2 a0 a1 bt184.1 bt184.2 (bt184.1 == 0)) else (laws_FnPubPage.j1 kj2 a0 a1 bt184.1 bt184.2 false))) else (some true))) = some r := by first | (rw [hy180]; with_reducible exact H) | (have H2_ := (Option.bind_some _ _).symm.trans H; rw [hy180]; with_reducible exact H2_) | (have H2_ := (Option.bind_some _ _).symm.trans H; with_reducible exact H2_) | with_reducible exact H | (rw [hy180]; exact H) | exact H
     have Ny180 := Aside0.mk hy180
     clear hy180
     replace H := Option.bind_eq_some_iff.mp H
     obtain ⟨t183, A60, H⟩ := H
     replace H : (if t183 = true then ((spec_Precedence.f kj2 a0 a1 3 3 false).bind fun bt184 => (if bt184.2 = true then (laws_FnPubPage.j1 kj2 a0 a1 bt184.1 bt184.2 (bt184.1 == 0)) else (laws_FnPubPage.j1 kj2 a0 a1 bt184.1 bt184.2 false))) else (some true)) = some r := H
     have A6 := Aside0.mk A60
     clear A60
     by_cases c7 : t183 = true
     · subst c7
       have H1 : ((spec_Precedence.f kj2 a0 a1 3 3 false).bind fun bt184 => (if bt184.2 = true then (laws_FnPubPage.j1 kj2 a0 a1 bt184.1 bt184.2 (bt184.1 == 0)) else (laws_FnPubPage.j1 kj2 a0 a1 bt184.1 bt184.2 false))) = some r := by rw [if_pos rfl] at H; exact H
       clear H
       have H := H1
       clear H1
       replace H := Option.bind_eq_some_iff.mp H
       obtain ⟨⟨t184, t185⟩, A80, H⟩ := H
       replace H : (if t185 = true then (laws_FnPubPage.j1 kj2 a0 a1 t184 t185 (t184 == 0)) else (laws_FnPubPage.j1 kj2 a0 a1 t184 t185 false)) = some r := H
       have A8 := Aside0.mk A80
       clear A80
       have HC9 := Aside0.mk H
       clear H
       go_upto_region 6 with (first | ((with_reducible refine gate_dst (N := 19) rfl ?_); (try (refine gate_guard (by rfl) ?_; dsimp only)); refine Kd.R_lit Kd.string _ 9 ?hg (N := 19) ?hd (xs := ([a0, a1] : List ByteArray)) (inner := [.string a0, .string a1]) (ok := fun _ => True) (okp := fun _ => True) ?hr ?hp (fun _ hk => hk) trivial (Below.refl _ _) (Nat.le_refl _) (by simp) ?_; (case hd => rfl); (case hg => rfl); (case hr => first | (go_simp; done) | (go_simp; rfl)); (case hp => exact (Reps.one (show Kd.M Kd.string _ _ _ a0 [.string a0] from rfl) (Reps.one (show Kd.M Kd.string _ _ _ a1 [.string a1] from rfl) (Reps.none _ _)))); intro v181 w10 ho11 hb hg_ hnew_; clear hg_ hnew_; (first | rw [← Ny180.out] at ho11 | (simp only [Int.reduceToNat] at ho11; rw [← Ny180.out] at ho11)); have n0_ := Aside0.mk (Kd.R_lower ho11 (below_size (by repeat (first | (with_reducible first | exact HB.out | apply below_alloc | apply pw_below_drewN | apply below_drew1) | exact HB.out)))); have n1_ := Aside0.mk (below_step (by repeat (first | (with_reducible first | exact HB.out | apply below_alloc | apply pw_below_drewN | apply below_drew1) | exact HB.out)) hb); clear HB; have HO182 := n0_; have HB := n1_; clear n0_ n1_; clear hb ho11; obtain ⟨Ao12, co12, eo12⟩ := Kd.R_slice HO182.out; subst eo12) | ((with_reducible refine gate_callee (f := 7) rfl ?_); refine goesL_ (some 20) rfl rfl Tryz.func7 (by kernel_rfl) rfl #[.slice Ao12 y180.length co12] rfl (by (try simp only [List.map_toArray, List.map_cons, List.map_nil]); first | done | rfl | (simp only [List.length_drop, List.length_take]; rfl)) ?_; (with_reducible refine (laws_short.calls kj2 _ _ y180 true _ ?side1 ?side2 A6.out).mono ?_); (case side1 => repeat (first | exact (Kd.R_reads' HO182.out).2.2 | (with_reducible refine Kd.C_alloc ?_ _) | (with_reducible refine Kd.C_drewN ?_ _) | (with_reducible refine Kd.C_drew ?_))); (case side2 => exact (Kd.R_reads' HO182.out).2.1); rintro e w' ⟨rfl, ⟨nd, rfl⟩⟩; refine ⟨_, rfl, ?_⟩) | ((with_reducible refine gate_callee (f := 13) rfl ?_); refine goesL_ (some 25) rfl rfl Tryz.func13 (by kernel_rfl) rfl #[.string a0, .string a1, .int .i64 3, .int .i64 3, .bool false] rfl (by (try simp only [List.map_toArray, List.map_cons, List.map_nil]); first | done | rfl | (simp only [List.length_drop, List.length_take]; rfl)) ?_; (with_reducible refine (spec_Precedence.calls kj2 a0 a1 3 3 false t184 t185 _ A8.out).mono ?_); rintro e w13 ⟨rfl, hb⟩; refine ⟨_, rfl, ?_⟩; have n0_ := Aside0.mk (Kd.R_below (by (with_reducible repeat (first | apply Kd.R_alloc | apply Kd.R_drewN | apply Kd.R_drew)); exact HO182.out) hb); have n1_ := Aside0.mk (below_step (by repeat (first | (with_reducible first | exact HB.out | apply below_alloc | apply pw_below_drewN | apply below_drew1) | exact HB.out)) hb); clear HO182; clear HB; have HO182 := n0_; have HB := n1_; clear n0_ n1_; (try clear hb); (try clear hb2); (try clear hk); (try clear hi)))
       (try simp only [Act.put, List.setIfInBounds_toArray, List.set_cons_zero, List.set_cons_succ])
       go_cut [32] (fun v32 wc => ∃ (kq : Nat) (x32_8 : Bool), v32 = .bool x32_8 ∧ Aside0 (laws_FnPubPage.j1 kq a0 a1 t184 t185 x32_8 = some r) ∧ Aside0 (kq ≤ kj2) ∧ Aside0 (Below w.heap.size w wc))
       case first =>
        have H := HC9.out
        clear HC9
        by_cases c14 : t185 = true
        · subst c14
          have H1 : (laws_FnPubPage.j1 kj2 a0 a1 t184 true (t184 == 0)) = some r := by rw [if_pos rfl] at H; exact H
          clear H
          have H := H1
          clear H1
          have H' := Aside0.mk H
          clear H
          go_wp2
          go_meet
          case rel => exact ⟨_, ((t184 == 0)), (by first | rfl | (simp; done) | (simp [*]; done) | (simp [bne_nil_]; done)), H', ⟨by have := HJ2.out; first | omega | exact Nat.le_refl _⟩, ⟨by repeat (first | (with_reducible first | exact HB.out | apply below_alloc | apply pw_below_drewN | apply below_drew1) | exact HB.out)⟩⟩
        · replace c14 := Bool.eq_false_iff.mpr c14
          subst c14
          have H1 : (laws_FnPubPage.j1 kj2 a0 a1 t184 false false) = some r := by rw [if_neg (show ¬ (false = true) by decide)] at H; exact H
          clear H
          have H := H1
          clear H1
          have H' := Aside0.mk H
          clear H
          go_wp2
          go_meet
          case rel => exact ⟨_, (false), (by first | rfl | (simp; done) | (simp [*]; done) | (simp [bne_nil_]; done)), H', ⟨by have := HJ2.out; first | omega | exact Nat.le_refl _⟩, ⟨by repeat (first | (with_reducible first | exact HB.out | apply below_alloc | apply pw_below_drewN | apply below_drew1) | exact HB.out)⟩⟩
       case rest =>
        clear HC9
        try clear c1
        try clear p2
        try clear c4
        try clear c4b0
        try clear c4b1
        try clear c5
        try clear c7
        try clear c13
        try clear c14
        try clear p2
        obtain ⟨kq, x32_8, rfl, HA, HJ8, HB⟩ := hcut
        cases kq with
        | zero => exact absurd HA.out (by simp [laws_FnPubPage.j1])
        | succ kj8 =>
         have H := HA.out
         clear HA
         simp only [laws_FnPubPage.j1] at H
         by_cases c15 : x32_8 = true
         · subst c15
           have H1 : ((spec_BuildOrder.f kj8 a0 a1).bind fun bt186 => (if bt186.2 = true then ((Giv.impl_PubCompareText.f a0 a1).bind fun bt188 => (if bt188.2 = true then (some (bt188.1 == bt186.1)) else (some false))) else (some true))) = some r := by rw [if_pos rfl] at H; exact H
           clear H
           have H := H1
           clear H1
           replace H := Option.bind_eq_some_iff.mp H
           obtain ⟨⟨t186, t187⟩, A160, H⟩ := H
           replace H : (if t187 = true then ((Giv.impl_PubCompareText.f a0 a1).bind fun bt188 => (if bt188.2 = true then (some (bt188.1 == t186)) else (some false))) else (some true)) = some r := H
           have A16 := Aside0.mk A160
           clear A160
           by_cases c17 : t187 = true
           · subst c17
             have H1 : ((Giv.impl_PubCompareText.f a0 a1).bind fun bt188 => (if bt188.2 = true then (some (bt188.1 == t186)) else (some false))) = some r := by rw [if_pos rfl] at H; exact H
             clear H
             have H := H1
             clear H1
             replace H := Option.bind_eq_some_iff.mp H
             obtain ⟨⟨t188, t189⟩, A180, H⟩ := H
             replace H : (if t189 = true then (some (t188 == t186)) else (some false)) = some r := H
             have A18 := Aside0.mk A180
             clear A180
             by_cases c19 : t189 = true
             · subst c19
               have H1 : (some (t188 == t186)) = some r := by rw [if_pos rfl] at H; exact H
               clear H
               have H := H1
               clear H1
               obtain rfl := Option.some.inj H
               go_wp2_with (first | ((with_reducible refine gate_callee (f := 14) rfl ?_); refine goesL_ (some 36) rfl rfl Tryz.func14 (by kernel_rfl) rfl #[.string a0, .string a1] rfl (by (try simp only [List.map_toArray, List.map_cons, List.map_nil]); first | done | rfl | (simp only [List.length_drop, List.length_take]; rfl)) ?_; (with_reducible refine (spec_BuildOrder.calls kj8 a0 a1 t186 true _ A16.out).mono ?_); rintro e w20 ⟨rfl, hb⟩; refine ⟨_, rfl, ?_⟩; have n0_ := Aside0.mk (below_step (by repeat (first | (with_reducible first | exact HB.out | apply below_alloc | apply pw_below_drewN | apply below_drew1) | exact HB.out)) hb); clear HB; have HB := n0_; clear n0_; (try clear hb); (try clear hb2); (try clear hk); (try clear hi)) | ((with_reducible refine gate_callee (f := 15) rfl ?_); refine goesL_ (some 44) rfl rfl Tryz.func15 (by kernel_rfl) rfl #[.string a0, .string a1] rfl (by (try simp only [List.map_toArray, List.map_cons, List.map_nil]); first | done | rfl | (simp only [List.length_drop, List.length_take]; rfl)) ?_; (with_reducible refine (Giv.impl_PubCompareText.calls a0 a1 t188 true _ A18.out (HLd.out.below (by repeat (first | (with_reducible first | exact HB.out | apply below_alloc | apply pw_below_drewN | apply below_drew1) | exact HB.out)))).mono ?_); rintro e w21 ⟨rfl, hb⟩; refine ⟨_, rfl, ?_⟩; have n0_ := Aside0.mk (below_step (by repeat (first | (with_reducible first | exact HB.out | apply below_alloc | apply pw_below_drewN | apply below_drew1) | exact HB.out)) hb); clear HB; have HB := n0_; clear n0_; (try clear hb); (try clear hb2); (try clear hk); (try clear hi)))
               go_ret
               exact ⟨by first | rfl | (simp [errW_none, errW_some] <;> rfl) | (simp [*, errW_none, errW_some] <;> rfl) | (simp [bne_nil_]; done), by repeat (first | (with_reducible first | exact HB.out | apply below_alloc | apply pw_below_drewN | apply below_drew1) | exact HB.out)⟩
             · replace c19 := Bool.eq_false_iff.mpr c19
               subst c19
               have H1 : (some false) = some r := by rw [if_neg (show ¬ (false = true) by decide)] at H; exact H
               clear H
               have H := H1
               clear H1
               obtain rfl := Option.some.inj H
               go_wp2_with (first | ((with_reducible refine gate_callee (f := 14) rfl ?_); refine goesL_ (some 36) rfl rfl Tryz.func14 (by kernel_rfl) rfl #[.string a0, .string a1] rfl (by (try simp only [List.map_toArray, List.map_cons, List.map_nil]); first | done | rfl | (simp only [List.length_drop, List.length_take]; rfl)) ?_; (with_reducible refine (spec_BuildOrder.calls kj8 a0 a1 t186 true _ A16.out).mono ?_); rintro e w22 ⟨rfl, hb⟩; refine ⟨_, rfl, ?_⟩; have n0_ := Aside0.mk (below_step (by repeat (first | (with_reducible first | exact HB.out | apply below_alloc | apply pw_below_drewN | apply below_drew1) | exact HB.out)) hb); clear HB; have HB := n0_; clear n0_; (try clear hb); (try clear hb2); (try clear hk); (try clear hi)) | ((with_reducible refine gate_callee (f := 15) rfl ?_); refine goesL_ (some 44) rfl rfl Tryz.func15 (by kernel_rfl) rfl #[.string a0, .string a1] rfl (by (try simp only [List.map_toArray, List.map_cons, List.map_nil]); first | done | rfl | (simp only [List.length_drop, List.length_take]; rfl)) ?_; (with_reducible refine (Giv.impl_PubCompareText.calls a0 a1 t188 false _ A18.out (HLd.out.below (by repeat (first | (with_reducible first | exact HB.out | apply below_alloc | apply pw_below_drewN | apply below_drew1) | exact HB.out)))).mono ?_); rintro e w23 ⟨rfl, hb⟩; refine ⟨_, rfl, ?_⟩; have n0_ := Aside0.mk (below_step (by repeat (first | (with_reducible first | exact HB.out | apply below_alloc | apply pw_below_drewN | apply below_drew1) | exact HB.out)) hb); clear HB; have HB := n0_; clear n0_; (try clear hb); (try clear hb2); (try clear hk); (try clear hi)))
               go_ret
               exact ⟨by first | rfl | (simp [errW_none, errW_some] <;> rfl) | (simp [*, errW_none, errW_some] <;> rfl) | (simp [bne_nil_]; done), by repeat (first | (with_reducible first | exact HB.out | apply below_alloc | apply pw_below_drewN | apply below_drew1) | exact HB.out)⟩
           · replace c17 := Bool.eq_false_iff.mpr c17
             subst c17
             have H1 : (some true) = some r := by rw [if_neg (show ¬ (false = true) by decide)] at H; exact H
             clear H
             have H := H1
             clear H1
             obtain rfl := Option.some.inj H
             go_wp2_with (first | ((with_reducible refine gate_callee (f := 14) rfl ?_); refine goesL_ (some 36) rfl rfl Tryz.func14 (by kernel_rfl) rfl #[.string a0, .string a1] rfl (by (try simp only [List.map_toArray, List.map_cons, List.map_nil]); first | done | rfl | (simp only [List.length_drop, List.length_take]; rfl)) ?_; (with_reducible refine (spec_BuildOrder.calls kj8 a0 a1 t186 false _ A16.out).mono ?_); rintro e w24 ⟨rfl, hb⟩; refine ⟨_, rfl, ?_⟩; have n0_ := Aside0.mk (below_step (by repeat (first | (with_reducible first | exact HB.out | apply below_alloc | apply pw_below_drewN | apply below_drew1) | exact HB.out)) hb); clear HB; have HB := n0_; clear n0_; (try clear hb); (try clear hb2); (try clear hk); (try clear hi)))
             go_ret
             exact ⟨by first | rfl | (simp [errW_none, errW_some] <;> rfl) | (simp [*, errW_none, errW_some] <;> rfl) | (simp [bne_nil_]; done), by repeat (first | (with_reducible first | exact HB.out | apply below_alloc | apply pw_below_drewN | apply below_drew1) | exact HB.out)⟩
         · replace c15 := Bool.eq_false_iff.mpr c15
           subst c15
           have H1 : (if t185 = true then ((Giv.impl_PubCompareText.f a0 a1).bind fun bt190 => (if bt190.2 = true then (some (bt190.1 == t184)) else (some false))) else (some true)) = some r := by rw [if_neg (show ¬ (false = true) by decide)] at H; exact H
           clear H
           have H := H1
           clear H1
           by_cases c25 : t185 = true
           · subst c25
             have H1 : ((Giv.impl_PubCompareText.f a0 a1).bind fun bt190 => (if bt190.2 = true then (some (bt190.1 == t184)) else (some false))) = some r := by rw [if_pos rfl] at H; exact H
             clear H
             have H := H1
             clear H1
             replace H := Option.bind_eq_some_iff.mp H
             obtain ⟨⟨t190, t191⟩, A260, H⟩ := H
             replace H : (if t191 = true then (some (t190 == t184)) else (some false)) = some r := H
             have A26 := Aside0.mk A260
             clear A260
             by_cases c27 : t191 = true
             · subst c27
               have H1 : (some (t190 == t184)) = some r := by rw [if_pos rfl] at H; exact H
               clear H
               have H := H1
               clear H1
               obtain rfl := Option.some.inj H
               go_wp2_with (first | ((with_reducible refine gate_callee (f := 15) rfl ?_); refine goesL_ (some 44) rfl rfl Tryz.func15 (by kernel_rfl) rfl #[.string a0, .string a1] rfl (by (try simp only [List.map_toArray, List.map_cons, List.map_nil]); first | done | rfl | (simp only [List.length_drop, List.length_take]; rfl)) ?_; (with_reducible refine (Giv.impl_PubCompareText.calls a0 a1 t190 true _ A26.out (HLd.out.below (by repeat (first | (with_reducible first | exact HB.out | apply below_alloc | apply pw_below_drewN | apply below_drew1) | exact HB.out)))).mono ?_); rintro e w28 ⟨rfl, hb⟩; refine ⟨_, rfl, ?_⟩; have n0_ := Aside0.mk (below_step (by repeat (first | (with_reducible first | exact HB.out | apply below_alloc | apply pw_below_drewN | apply below_drew1) | exact HB.out)) hb); clear HB; have HB := n0_; clear n0_; (try clear hb); (try clear hb2); (try clear hk); (try clear hi)))
               go_ret
               exact ⟨by first | rfl | (simp [errW_none, errW_some] <;> rfl) | (simp [*, errW_none, errW_some] <;> rfl) | (simp [bne_nil_]; done), by repeat (first | (with_reducible first | exact HB.out | apply below_alloc | apply pw_below_drewN | apply below_drew1) | exact HB.out)⟩
             · replace c27 := Bool.eq_false_iff.mpr c27
               subst c27
               have H1 : (some false) = some r := by rw [if_neg (show ¬ (false = true) by decide)] at H; exact H
               clear H
               have H := H1
               clear H1
               obtain rfl := Option.some.inj H
               go_wp2_with (first | ((with_reducible refine gate_callee (f := 15) rfl ?_); refine goesL_ (some 44) rfl rfl Tryz.func15 (by kernel_rfl) rfl #[.string a0, .string a1] rfl (by (try simp only [List.map_toArray, List.map_cons, List.map_nil]); first | done | rfl | (simp only [List.length_drop, List.length_take]; rfl)) ?_; (with_reducible refine (Giv.impl_PubCompareText.calls a0 a1 t190 false _ A26.out (HLd.out.below (by repeat (first | (with_reducible first | exact HB.out | apply below_alloc | apply pw_below_drewN | apply below_drew1) | exact HB.out)))).mono ?_); rintro e w29 ⟨rfl, hb⟩; refine ⟨_, rfl, ?_⟩; have n0_ := Aside0.mk (below_step (by repeat (first | (with_reducible first | exact HB.out | apply below_alloc | apply pw_below_drewN | apply below_drew1) | exact HB.out)) hb); clear HB; have HB := n0_; clear n0_; (try clear hb); (try clear hb2); (try clear hk); (try clear hi)))
               go_ret
               exact ⟨by first | rfl | (simp [errW_none, errW_some] <;> rfl) | (simp [*, errW_none, errW_some] <;> rfl) | (simp [bne_nil_]; done), by repeat (first | (with_reducible first | exact HB.out | apply below_alloc | apply pw_below_drewN | apply below_drew1) | exact HB.out)⟩
           · replace c25 := Bool.eq_false_iff.mpr c25
             subst c25
             have H1 : (some true) = some r := by rw [if_neg (show ¬ (false = true) by decide)] at H; exact H
             clear H
             have H := H1
             clear H1
             obtain rfl := Option.some.inj H
             go_wp2
             go_ret
             exact ⟨by first | rfl | (simp [errW_none, errW_some] <;> rfl) | (simp [*, errW_none, errW_some] <;> rfl) | (simp [bne_nil_]; done), by repeat (first | (with_reducible first | exact HB.out | apply below_alloc | apply pw_below_drewN | apply below_drew1) | exact HB.out)⟩
     · replace c7 := Bool.eq_false_iff.mpr c7
       subst c7
       have H1 : (some true) = some r := by rw [if_neg (show ¬ (false = true) by decide)] at H; exact H
       clear H
       have H := H1
       clear H1
       obtain rfl := Option.some.inj H
       go_wp2_with (first | ((with_reducible refine gate_dst (N := 19) rfl ?_); (try (refine gate_guard (by rfl) ?_; dsimp only)); refine Kd.R_lit Kd.string _ 9 ?hg (N := 19) ?hd (xs := ([a0, a1] : List ByteArray)) (inner := [.string a0, .string a1]) (ok := fun _ => True) (okp := fun _ => True) ?hr ?hp (fun _ hk => hk) trivial (Below.refl _ _) (Nat.le_refl _) (by simp) ?_; (case hd => rfl); (case hg => rfl); (case hr => first | (go_simp; done) | (go_simp; rfl)); (case hp => exact (Reps.one (show Kd.M Kd.string _ _ _ a0 [.string a0] from rfl) (Reps.one (show Kd.M Kd.string _ _ _ a1 [.string a1] from rfl) (Reps.none _ _)))); intro v181 w30 ho31 hb hg_ hnew_; clear hg_ hnew_; (first | rw [← Ny180.out] at ho31 | (simp only [Int.reduceToNat] at ho31; rw [← Ny180.out] at ho31)); have n0_ := Aside0.mk (Kd.R_lower ho31 (below_size (by repeat (first | (with_reducible first | exact HB.out | apply below_alloc | apply pw_below_drewN | apply below_drew1) | exact HB.out)))); have n1_ := Aside0.mk (below_step (by repeat (first | (with_reducible first | exact HB.out | apply below_alloc | apply pw_below_drewN | apply below_drew1) | exact HB.out)) hb); clear HB; have HO182 := n0_; have HB := n1_; clear n0_ n1_; clear hb ho31; obtain ⟨Ao32, co32, eo32⟩ := Kd.R_slice HO182.out; subst eo32) | ((with_reducible refine gate_callee (f := 7) rfl ?_); refine goesL_ (some 20) rfl rfl Tryz.func7 (by kernel_rfl) rfl #[.slice Ao32 y180.length co32] rfl (by (try simp only [List.map_toArray, List.map_cons, List.map_nil]); first | done | rfl | (simp only [List.length_drop, List.length_take]; rfl)) ?_; (with_reducible refine (laws_short.calls kj2 _ _ y180 false _ ?side1 ?side2 A6.out).mono ?_); (case side1 => repeat (first | exact (Kd.R_reads' HO182.out).2.2 | (with_reducible refine Kd.C_alloc ?_ _) | (with_reducible refine Kd.C_drewN ?_ _) | (with_reducible refine Kd.C_drew ?_))); (case side2 => exact (Kd.R_reads' HO182.out).2.1); rintro e w' ⟨rfl, ⟨nd, rfl⟩⟩; refine ⟨_, rfl, ?_⟩))
       go_ret
       exact ⟨by first | rfl | (simp [errW_none, errW_some] <;> rfl) | (simp [*, errW_none, errW_some] <;> rfl) | (simp [bne_nil_]; done), by repeat (first | (with_reducible first | exact HB.out | apply below_alloc | apply pw_below_drewN | apply below_drew1) | exact HB.out)⟩

/-- THE ONE PURE STATEMENT of laws_FnPubPage: yours. -/
def laws_FnPubPage.Pure : Prop := ∀ (a0 : ByteArray) (a1 : ByteArray), a0.size ≤ 140737488351232 → a1.size ≤ 140737488351232 → ∃ k, laws_FnPubPage.f k a0 a1 = some true

end Go.Proofs.YtdliagehkiihpaaGreatDoor.QG
