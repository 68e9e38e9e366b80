/- Contracts by hand: versions of Hackage made of plain parts, compared. Printed by wip/tool/genng.py.
   The law FnHackage walked, over contracts. Printed by wip/tool/genlw.py. -/
import Derived.Test.YtdpeadckejhloaaGreatDoorZHV
namespace Go.Proofs.YtdpeadckejhloaaGreatDoor.Giv
open Go.RowKit Go.Proofs.YtdpeadckejhloaaGreatDoorW.PrintWords Go.Proofs.YtdpeadckejhloaaGreatDoorW.PrintLast Go.Proofs.YtdpeadckejhloaaGreatDoor.Pk Go.Proofs.YtdpeadckejhloaaGreatDoor.Ord Go.Proofs.YtdpeadckejhloaaGreatDoor.QH
set_option linter.unusedVariables false
set_option linter.unusedSimpArgs false

set_option maxRecDepth 100000 in
set_option maxHeartbeats 4000000 in
theorem hkMake_calls (lv0 : Bool) (A0 : Option Addr) (n0 c0 : Nat) (l : List S77) (b0 o0 : ByteArray) (w : World) (hn : n0 = l.length) (hr : Kd.C k77 w A0 l.length l) (hl : l.length ≤ 100000) (hs : ∀ x ∈ l, x.f1.size ≤ 100000) :
    Calls Tryz.prog 22 #[.agg #[.bool lv0, .slice A0 n0 c0, .string b0, .string o0]] w fun e w' => ∃ (B : Option Addr) (d : Nat), e = .returned (.agg #[.bool lv0, .slice B n0 d, .string b0, .string o0]) ∧ BOwn w' w.heap.size (.slice B n0 d) (zsOf l) ∧ Below w.heap.size w w' := by
  have b1 := below_alloc (Below.refl w.heap.size w) (Obj.cells #[Value.bool lv0, .slice A0 n0 c0, .string b0, .string o0] 48)
  have b2 := below_alloc b1 (Obj.cells #[Value.bool false, .slice none 0 0, .string ⟨#[]⟩, .string ⟨#[]⟩] 52)
  have k1 : ((w.alloc (Obj.cells #[Value.bool lv0, .slice A0 n0 c0, .string b0, .string o0] 48)).alloc (Obj.cells #[Value.bool false, .slice none 0 0, .string ⟨#[]⟩, .string ⟨#[]⟩] 52)).heap[w.heap.size]? = some (Obj.cells #[Value.bool lv0, .slice A0 n0 c0, .string b0, .string o0] 48) := blk_alloc (blk_new w _) _
  have m1 : ((w.alloc (Obj.cells #[Value.bool lv0, .slice A0 n0 c0, .string b0, .string o0] 48)).alloc (Obj.cells #[Value.bool false, .slice none 0 0, .string ⟨#[]⟩, .string ⟨#[]⟩] 52)).heap[w.heap.size + 1]? = some (Obj.cells #[Value.bool false, .slice none 0 0, .string ⟨#[]⟩, .string ⟨#[]⟩] 52) := by
    have := blk_new (w.alloc (Obj.cells #[Value.bool lv0, .slice A0 n0 c0, .string b0, .string o0] 48)) (Obj.cells #[Value.bool false, .slice none 0 0, .string ⟨#[]⟩, .string ⟨#[]⟩] 52)
    simpa using this
  have p0 := blk_cell k1 0
  have p1 := blk_cell k1 1
  have p2 := blk_cell k1 2
  have p3 := blk_cell k1 3
  have zl := zzLike_calls lv0 A0 n0 c0 l b0 o0 _ hn (Kd.C_below hr b2) hl hs
  rw [zsOf_len, ← hn] at zl
  have B2 := Aside0.mk b2
  have M1 := Aside0.mk m1
  clear b1 b2 k1 m1 hr hl hs hn
  go_enter Tryz.func22, Tryz.ntmps22
  go_wp2_with (first | (go_at_call 31; (with_reducible refine zl.mono ?_); rintro e w1 ⟨B, d, rfl, ho, d1⟩; have HO := Aside0.mk (BOwn.lower ho B2.out.size); have D1 := Aside0.mk (below_then B2.out B2.out.size d1); have m2 := (d1.block _ (blk_lt M1.out)).trans M1.out; have M2 := Aside0.mk m2; have q0 := blk_cell m2 0; have q1 := blk_cell m2 1; have q2 := blk_cell m2 2; have q3 := blk_cell m2 3; have f0 := Lib.frozen_of_heap m2 0; have f1 := Lib.frozen_of_heap m2 1; have f2 := Lib.frozen_of_heap m2 2; have f3 := Lib.frozen_of_heap m2 3; clear ho d1 m2))
  have M3 := Aside0.mk (blk_put4 M2.out (.bool lv0) (.slice B n0 d) (.string b0) (.string o0))
  refine bodyPost_ret (results_cell_row rfl _ _ (w.heap.size + 1) 52 #[.bool lv0, .slice B n0 d, .string b0, .string o0] (0, 0) _ rfl M3.out Tryz.underlying52 rfl (by kernel_rfl)) rfl ?_
  exact ⟨B, d, rfl, BOwn.put4 HO.out M2.out (by decide) (by decide) _ _ _ _, below_set (below_set (below_set (below_set D1.out (Nat.le_succ _)) (Nat.le_succ _)) (Nat.le_succ _)) (Nat.le_succ _)⟩
set_option maxRecDepth 100000 in
set_option maxHeartbeats 4000000 in
theorem hkCompare_calls (lv0 lv1 : Bool) (A0 A1 : Option Addr) (n0 c0 n1 c1 : Nat) (zs ys : List Int) (b0 o0 b1 o1 : ByteArray) (w : World) (e0 : n0 = zs.length) (e1 : n1 = ys.length) (h0 : BRow w A0 zs) (h1 : BRow w A1 ys) (l0 : zs.length ≤ 100000) (l1 : ys.length ≤ 100000) (s0 : b0.size ≤ 40000) (s1 : b1.size ≤ 40000) (a0 : Asc b0) (a1 : Asc b1) (hL : Laid w) :
    Calls Tryz.prog 34 #[.agg #[.bool lv0, .slice A0 n0 c0, .string b0, .string o0], .agg #[.bool lv1, .slice A1 n1 c1, .string b1, .string o1]] w fun e w' => e = .returned (.int .i64 (lkC zs ys b0 b1)) ∧ Below w.heap.size w w' := by
  have x1 := below_alloc (Below.refl w.heap.size w) (Obj.cells #[Value.bool lv0, .slice A0 n0 c0, .string b0, .string o0] 52)
  have x2 := below_alloc x1 (Obj.cells #[Value.bool lv1, .slice A1 n1 c1, .string b1, .string o1] 52)
  have k1 : ((w.alloc (Obj.cells #[Value.bool lv0, .slice A0 n0 c0, .string b0, .string o0] 52)).alloc (Obj.cells #[Value.bool lv1, .slice A1 n1 c1, .string b1, .string o1] 52)).heap[w.heap.size]? = some (Obj.cells #[Value.bool lv0, .slice A0 n0 c0, .string b0, .string o0] 52) := blk_alloc (blk_new w _) _
  have m1 : ((w.alloc (Obj.cells #[Value.bool lv0, .slice A0 n0 c0, .string b0, .string o0] 52)).alloc (Obj.cells #[Value.bool lv1, .slice A1 n1 c1, .string b1, .string o1] 52)).heap[w.heap.size + 1]? = some (Obj.cells #[Value.bool lv1, .slice A1 n1 c1, .string b1, .string o1] 52) := by
    have := blk_new (w.alloc (Obj.cells #[Value.bool lv0, .slice A0 n0 c0, .string b0, .string o0] 52)) (Obj.cells #[Value.bool lv1, .slice A1 n1 c1, .string b1, .string o1] 52)
    simpa using this
  have p1 := blk_cell k1 1
  have q1 := blk_cell m1 1
  have cm : Calls Tryz.prog 42 #[.pointer (some ⟨w.heap.size, 1, none⟩), .slice A1 n1 c1] ((w.alloc (Obj.cells #[Value.bool lv0, .slice A0 n0 c0, .string b0, .string o0] 52)).alloc (Obj.cells #[Value.bool lv1, .slice A1 n1 c1, .string b1, .string o1] 52)) fun e w'' => e = .returned (.int .i64 (padL cI 0 zs ys)) ∧ Below ((w.alloc (Obj.cells #[Value.bool lv0, .slice A0 n0 c0, .string b0, .string o0] 52)).alloc (Obj.cells #[Value.bool lv1, .slice A1 n1 c1, .string b1, .string o1] 52)).heap.size ((w.alloc (Obj.cells #[Value.bool lv0, .slice A0 n0 c0, .string b0, .string o0] 52)).alloc (Obj.cells #[Value.bool lv1, .slice A1 n1 c1, .string b1, .string o1] 52)) w'' := by
    subst e0
    subst e1
    exact compCmp_calls w.heap.size 1 A0 A1 c0 c1 zs ys _ p1 (h0.below x2) (h1.below x2) (by omega) (by omega)
  have t0 : ∀ w' : World, Calls Tryz.prog 44 #[.string b0] w' fun e w'' => e = .returned (.string (low b0)) ∧ Below w'.heap.size w' w'' := fun w' => toLower_calls b0 w' (by omega) a0
  have t1 : ∀ w' : World, Calls Tryz.prog 44 #[.string b1] w' fun e w'' => e = .returned (.string (low b1)) ∧ Below w'.heap.size w' w'' := fun w' => toLower_calls b1 w' (by omega) a1
  have cb : ∀ w' : World, Below w.heap.size w w' → Calls Tryz.prog 43 #[.string (low b0), .string (low b1)] w' fun e w'' => e = .returned (.int .i64 (Cut.buildC (low b0).toList (low b1).toList)) ∧ Below w'.heap.size w' w'' := fun w' d => buildC_calls (low b0) (low b1) w' (by rw [low_size]; exact s0) (by rw [low_size]; exact s1) (hL.below d)
  have X2 := Aside0.mk x2
  have K1 := Aside0.mk k1
  have M1 := Aside0.mk m1
  have CE := Aside0.mk (show lkC zs ys b0 b1 = if padL cI 0 zs ys = 0 then Cut.buildC (low b0).toList (low b1).toList else padL cI 0 zs ys from rfl)
  clear x1 x2 k1 m1 h0 h1 l0 l1 s0 s1 a0 a1 hL e0 e1
  generalize padL cI 0 zs ys = c at *
  generalize Cut.buildC (low b0).toList (low b1).toList = bc at *
  generalize lkC zs ys b0 b1 = r at *
  by_cases hc : c = 0
  · subst hc
    have RV := Aside0.mk (show r = bc by rw [CE.out, if_pos rfl])
    clear CE
    go_enter Tryz.func34, Tryz.ntmps34
    go_wp2_with (first | (go_at_call 42; (with_reducible refine cm.mono ?_); rintro e w1 ⟨rfl, d1⟩; have D1 := Aside0.mk (below_then X2.out X2.out.size d1); have K2 := Aside0.mk ((d1.block _ (blk_lt K1.out)).trans K1.out); have M2 := Aside0.mk ((d1.block _ (blk_lt M1.out)).trans M1.out); have r2 : w1.cell? ⟨w.heap.size, 2, none⟩ = some (.string b0) := blk_cell K2.out 2; have s2 : w1.cell? ⟨w.heap.size + 1, 2, none⟩ = some (.string b1) := blk_cell M2.out 2; clear d1) | fail)
    have HD : w1.drew.cell? ⟨w.heap.size, 2, none⟩ = some (.string b0) ∧ w1.drew.cell? ⟨w.heap.size + 1, 2, none⟩ = some (.string b1) ∧ Below w.heap.size w w1.drew := lkS ⟨r2, s2, D1.out⟩ (Below.drew (Below.refl _ _))
    clear r2 s2 p1 q1 cm K2 M2 K1 M1 X2 D1
    go_region_held3 (fun w' => w'.cell? ⟨w.heap.size, 2, none⟩ = some (.string b0) ∧ w'.cell? ⟨w.heap.size + 1, 2, none⟩ = some (.string b1) ∧ Below w.heap.size w w') (first | (with_reducible assumption) | (with_reducible exact lkS (by with_reducible assumption) (by with_reducible assumption))) (first | (go_at_call 44; (with_reducible refine (t0 _).mono ?_); rintro e w2 ⟨rfl, d2⟩) | (go_at_call 44; (with_reducible refine (t1 _).mono ?_); rintro e w3 ⟨rfl, d3⟩) | (go_at_call 43; (with_reducible refine (cb _ ?hz).mono ?_); (case hz => first | with_reducible assumption | exact (show _ ∧ _ ∧ Below w.heap.size w _ from by with_reducible assumption).2.2); rintro e w4 ⟨rfl, d4⟩))
    go_wp2_with fail
    go_ret
    exact ⟨by rw [RV.out]; rfl, below_then (below_then (below_then HD.2.2 HD.2.2.size d2) (Nat.le_trans HD.2.2.size d2.size) d3) (Nat.le_trans HD.2.2.size (Nat.le_trans d2.size d3.size)) d4⟩
  · have RV := Aside0.mk (show r = c by rw [CE.out, if_neg hc])
    have nz : (c != 0) = true := bne_iff_ne.2 hc
    clear CE hc
    go_enter Tryz.func34, Tryz.ntmps34
    go_wp2_with (first | (go_at_call 42; (with_reducible refine cm.mono ?_); rintro e w1 ⟨rfl, d1⟩; have D1 := Aside0.mk (below_then X2.out X2.out.size d1); clear d1))
    go_ret
    exact ⟨by rw [RV.out]; rfl, D1.out⟩
set_option maxRecDepth 100000 in
set_option maxHeartbeats 4000000 in
theorem hkIface_calls (lv0 lv1 : Bool) (A0 A1 : Option Addr) (n0 c0 n1 c1 : Nat) (b0 o0 b1 o1 : ByteArray) (r q : Int) (hq : q = if r = 0 then cI n0 n1 else r) (w : World) (c : ∀ w', Below w.heap.size w w' → Calls Tryz.prog 34 #[.agg #[.bool lv0, .slice A0 n0 c0, .string b0, .string o0], .agg #[.bool lv1, .slice A1 n1 c1, .string b1, .string o1]] w' fun e w'' => e = .returned (.int .i64 r) ∧ Below w'.heap.size w' w'') :
    Calls Tryz.prog 23 #[.agg #[.bool lv0, .slice A0 n0 c0, .string b0, .string o0], .iface 52 (.agg #[.bool lv1, .slice A1 n1 c1, .string b1, .string o1])] w fun e w' => e = .returned (.tuple #[.int .i64 q, .nilIface]) ∧ Below w.heap.size w w' := by
  have hta := fun v w => run_assert_is Tryz.underlying52 66 v w
  have h1 := below_alloc (Below.refl w.heap.size w) (Obj.cells #[Value.bool lv0, .slice A0 n0 c0, .string b0, .string o0] 52)
  have H1 := Aside0.mk h1
  clear h1
  have k1 : ((w.alloc (Obj.cells #[Value.bool lv0, .slice A0 n0 c0, .string b0, .string o0] 52)).alloc (Obj.cells #[Value.bool lv1, .slice A1 n1 c1, .string b1, .string o1] 52)).heap[w.heap.size]? = some (Obj.cells #[Value.bool lv0, .slice A0 n0 c0, .string b0, .string o0] 52) := blk_alloc (blk_new w _) _
  have m1 : ((w.alloc (Obj.cells #[Value.bool lv0, .slice A0 n0 c0, .string b0, .string o0] 52)).alloc (Obj.cells #[Value.bool lv1, .slice A1 n1 c1, .string b1, .string o1] 52)).heap[w.heap.size + 1]? = some (Obj.cells #[Value.bool lv1, .slice A1 n1 c1, .string b1, .string o1] 52) := by
    have := blk_new (w.alloc (Obj.cells #[Value.bool lv0, .slice A0 n0 c0, .string b0, .string o0] 52)) (Obj.cells #[Value.bool lv1, .slice A1 n1 c1, .string b1, .string o1] 52)
    simpa using this
  have K1 := Aside0.mk k1
  have M1 := Aside0.mk m1
  clear k1 m1
  by_cases hc : r = 0
  · subst hc
    rcases Nat.lt_trichotomy n0 n1 with hl | hl | hl
    · have RV := Aside0.mk (show q = -1 by rw [hq, if_pos rfl]; exact cI_neg.2 (by omega))
      have f1 : decide ((n1 : Int) < (n0 : Int)) = false := decide_eq_false (by omega)
      have f2 : decide ((n0 : Int) < (n1 : Int)) = true := decide_eq_true (by omega)
      have f3 : ¬ ((n0 : Int) > (n1 : Int)) := by omega
      have f4 : (n0 : Int) < (n1 : Int) := by omega
      clear hl hq
      go_enter Tryz.func23, Tryz.ntmps23
      go_wp2_with (first | (go_at_call 34; (with_reducible refine (c _ ?hz).mono ?_); (case hz => exact below_alloc H1.out _); rintro e w1 ⟨rfl, hb1⟩; have HB := Aside0.mk (below_then (below_alloc H1.out _) (below_alloc H1.out _).size hb1); have p1 := blk_cell ((hb1.block _ (blk_lt K1.out)).trans K1.out) 1; have q1 := blk_cell ((hb1.block _ (blk_lt M1.out)).trans M1.out) 1; clear hb1))
      go_ret2
      exact ⟨by rw [RV.out]; rfl, HB.out⟩
    · have RV := Aside0.mk (show q = 0 by rw [hq, if_pos rfl]; exact cI_zero.2 (by omega))
      have f1 : decide ((n1 : Int) < (n0 : Int)) = false := decide_eq_false (by omega)
      have f2 : decide ((n0 : Int) < (n1 : Int)) = false := decide_eq_false (by omega)
      have f3 : ¬ ((n0 : Int) > (n1 : Int)) := by omega
      have f4 : ¬ ((n0 : Int) < (n1 : Int)) := by omega
      clear hl hq
      go_enter Tryz.func23, Tryz.ntmps23
      go_wp2_with (first | (go_at_call 34; (with_reducible refine (c _ ?hz).mono ?_); (case hz => exact below_alloc H1.out _); rintro e w1 ⟨rfl, hb1⟩; have HB := Aside0.mk (below_then (below_alloc H1.out _) (below_alloc H1.out _).size hb1); have p1 := blk_cell ((hb1.block _ (blk_lt K1.out)).trans K1.out) 1; have q1 := blk_cell ((hb1.block _ (blk_lt M1.out)).trans M1.out) 1; clear hb1))
      go_ret2
      exact ⟨by rw [RV.out]; rfl, HB.out⟩
    · have RV := Aside0.mk (show q = 1 by rw [hq, if_pos rfl]; exact cI_pos.2 (by omega))
      have f1 : decide ((n1 : Int) < (n0 : Int)) = true := decide_eq_true (by omega)
      have f3 : ((n0 : Int) > (n1 : Int)) := by omega
      clear hl hq
      go_enter Tryz.func23, Tryz.ntmps23
      go_wp2_with (first | (go_at_call 34; (with_reducible refine (c _ ?hz).mono ?_); (case hz => exact below_alloc H1.out _); rintro e w1 ⟨rfl, hb1⟩; have HB := Aside0.mk (below_then (below_alloc H1.out _) (below_alloc H1.out _).size hb1); have p1 := blk_cell ((hb1.block _ (blk_lt K1.out)).trans K1.out) 1; have q1 := blk_cell ((hb1.block _ (blk_lt M1.out)).trans M1.out) 1; clear hb1))
      go_ret2
      exact ⟨by rw [RV.out]; rfl, HB.out⟩
  · have RV := Aside0.mk (show q = r by rw [hq, if_neg hc])
    have nz : (r != 0) = true := bne_iff_ne.2 hc
    clear hc hq
    go_enter Tryz.func23, Tryz.ntmps23
    go_wp2_with (first | (go_at_call 34; (with_reducible refine (c _ ?hz).mono ?_); (case hz => exact below_alloc H1.out _); rintro e w1 ⟨rfl, hb1⟩; have HB := Aside0.mk (below_then (below_alloc H1.out _) (below_alloc H1.out _).size hb1); have p1 := blk_cell ((hb1.block _ (blk_lt K1.out)).trans K1.out) 1; have q1 := blk_cell ((hb1.block _ (blk_lt M1.out)).trans M1.out) 1; clear hb1))
    go_ret2
    exact ⟨by rw [RV.out]; rfl, HB.out⟩
set_option maxRecDepth 100000 in
set_option maxHeartbeats 8000000 in
theorem hkImpl_calls (lv0 lv1 : Bool) (A0 A1 : Option Addr) (n0 c0 n1 c1 : Nat) (l0 l1 : List S55) (b0 o0 b1 o1 : ByteArray) (w : World) (e0 : n0 = l0.length) (e1 : n1 = l1.length) (h0 : Kd.C k55 w A0 l0.length l0) (h1 : Kd.C k55 w A1 l1.length l1) (hc0 : l0.length ≤ c0) (hc1 : l1.length ≤ c1) (q0 : small l0 = true) (q1 : small l1 = true) (s0 : b0.size ≤ 40000) (s1 : b1.size ≤ 40000) (a0 : Asc b0) (a1 : Asc b1) (hL : Laid w) :
    Calls Tryz.prog 11 #[.agg #[.bool lv0, .slice A0 n0 c0, .string b0, .string o0], .agg #[.bool lv1, .slice A1 n1 c1, .string b1, .string o1]] w fun e w' => e = .returned (.tuple #[.int .i64 (if lkC (zn l0) (zn l1) b0 b1 = 0 then cI n0 n1 else lkC (zn l0) (zn l1) b0 b1), .bool true]) ∧ Below w.heap.size w w' := by
  have lk0 : ∀ w' : World, Below w.heap.size w w' → Calls Tryz.prog 19 #[.agg #[.bool lv0, .slice A0 n0 c0, .string b0, .string o0]] w' fun e w'' => ∃ (B : Option Addr) (d : Nat), e = .returned (.agg #[.bool lv0, .slice B n0 d, .string b0, .string o0]) ∧ Kd.C k77 w'' B (zi l0).length (zi l0) ∧ Below w'.heap.size w' w'' := fun w' d => implLike_calls lv0 A0 c0 n0 l0 b0 o0 w' e0 (Kd.C_below h0 d) hc0 (small_len q0)
  have mk0 : ∀ (B : Option Addr) (d : Nat) (w' : World), Kd.C k77 w' B (zi l0).length (zi l0) → Calls Tryz.prog 22 #[.agg #[.bool lv0, .slice B n0 d, .string b0, .string o0]] w' fun e w'' => ∃ (B' : Option Addr) (d' : Nat), e = .returned (.agg #[.bool lv0, .slice B' n0 d', .string b0, .string o0]) ∧ BOwn w'' w'.heap.size (.slice B' n0 d') (zn l0) ∧ Below w'.heap.size w' w'' := fun B d w' h => by
    have := hkMake_calls lv0 B n0 d (zi l0) b0 o0 w' (by rw [zi_len]; exact e0) h (by rw [zi_len]; exact small_len q0) (small_all q0)
    rwa [zsOf_zi] at this
  have lk1 : ∀ w' : World, Below w.heap.size w w' → Calls Tryz.prog 19 #[.agg #[.bool lv1, .slice A1 n1 c1, .string b1, .string o1]] w' fun e w'' => ∃ (B : Option Addr) (d : Nat), e = .returned (.agg #[.bool lv1, .slice B n1 d, .string b1, .string o1]) ∧ Kd.C k77 w'' B (zi l1).length (zi l1) ∧ Below w'.heap.size w' w'' := fun w' d => implLike_calls lv1 A1 c1 n1 l1 b1 o1 w' e1 (Kd.C_below h1 d) hc1 (small_len q1)
  have mk1 : ∀ (B : Option Addr) (d : Nat) (w' : World), Kd.C k77 w' B (zi l1).length (zi l1) → Calls Tryz.prog 22 #[.agg #[.bool lv1, .slice B n1 d, .string b1, .string o1]] w' fun e w'' => ∃ (B' : Option Addr) (d' : Nat), e = .returned (.agg #[.bool lv1, .slice B' n1 d', .string b1, .string o1]) ∧ BOwn w'' w'.heap.size (.slice B' n1 d') (zn l1) ∧ Below w'.heap.size w' w'' := fun B d w' h => by
    have := hkMake_calls lv1 B n1 d (zi l1) b1 o1 w' (by rw [zi_len]; exact e1) h (by rw [zi_len]; exact small_len q1) (small_all q1)
    rwa [zsOf_zi] at this
  have cp : ∀ (B0 B1 : Option Addr) (d0 d1 : Nat) (w' : World), Below w.heap.size w w' → BOwn w' w.heap.size (.slice B0 n0 d0) (zn l0) → BOwn w' w.heap.size (.slice B1 n1 d1) (zn l1) → Calls Tryz.prog 23 #[.agg #[.bool lv0, .slice B0 n0 d0, .string b0, .string o0], .iface 52 (.agg #[.bool lv1, .slice B1 n1 d1, .string b1, .string o1])] w' fun e w'' => e = .returned (.tuple #[.int .i64 (if lkC (zn l0) (zn l1) b0 b1 = 0 then cI n0 n1 else lkC (zn l0) (zn l1) b0 b1), .nilIface]) ∧ Below w'.heap.size w' w'' := fun B0 B1 d0 d1 w' d g0 g1 => by
    obtain ⟨_, _, x0, _, r0⟩ := g0.slice
    obtain ⟨_, _, x1, _, r1⟩ := g1.slice
    injection x0 with y0 _ _
    injection x1 with y1 _ _
    subst y0
    subst y1
    exact hkIface_calls lv0 lv1 B0 B1 n0 d0 n1 d1 b0 o0 b1 o1 _ _ rfl w' (fun w'' d' => hkCompare_calls lv0 lv1 B0 B1 n0 d0 n1 d1 (zn l0) (zn l1) b0 o0 b1 o1 w'' (by rw [zn_len]; exact e0) (by rw [zn_len]; exact e1) (r0.below d') (r1.below d') (by rw [zn_len]; exact small_len q0) (by rw [zn_len]; exact small_len q1) s0 s1 a0 a1 (hL.below (below_then d d.size d')))
  have x1 := below_alloc (Below.refl w.heap.size w) (Obj.cells #[Value.bool lv0, .slice A0 n0 c0, .string b0, .string o0] 24)
  have x2 := below_alloc x1 (Obj.cells #[Value.bool lv1, .slice A1 n1 c1, .string b1, .string o1] 24)
  have k1 : ((w.alloc (Obj.cells #[Value.bool lv0, .slice A0 n0 c0, .string b0, .string o0] 24)).alloc (Obj.cells #[Value.bool lv1, .slice A1 n1 c1, .string b1, .string o1] 24)).heap[w.heap.size]? = some (Obj.cells #[Value.bool lv0, .slice A0 n0 c0, .string b0, .string o0] 24) := blk_alloc (blk_new w _) _
  have m1 : ((w.alloc (Obj.cells #[Value.bool lv0, .slice A0 n0 c0, .string b0, .string o0] 24)).alloc (Obj.cells #[Value.bool lv1, .slice A1 n1 c1, .string b1, .string o1] 24)).heap[w.heap.size + 1]? = some (Obj.cells #[Value.bool lv1, .slice A1 n1 c1, .string b1, .string o1] 24) := by
    have := blk_new (w.alloc (Obj.cells #[Value.bool lv0, .slice A0 n0 c0, .string b0, .string o0] 24)) (Obj.cells #[Value.bool lv1, .slice A1 n1 c1, .string b1, .string o1] 24)
    simpa using this
  obtain ⟨W, eW⟩ : ∃ W, W = ((w.alloc (Obj.cells #[Value.bool lv0, .slice A0 n0 c0, .string b0, .string o0] 24)).alloc (Obj.cells #[Value.bool lv1, .slice A1 n1 c1, .string b1, .string o1] 24)) := ⟨_, rfl⟩
  have HS : W.cell? ⟨w.heap.size, 0, none⟩ = some (.bool lv0) ∧ W.cell? ⟨w.heap.size, 1, none⟩ = some (.slice A0 n0 c0) ∧ W.cell? ⟨w.heap.size, 2, none⟩ = some (.string b0) ∧ W.cell? ⟨w.heap.size, 3, none⟩ = some (.string o0) ∧ W.cell? ⟨w.heap.size + 1, 0, none⟩ = some (.bool lv1) ∧ W.cell? ⟨w.heap.size + 1, 1, none⟩ = some (.slice A1 n1 c1) ∧ W.cell? ⟨w.heap.size + 1, 2, none⟩ = some (.string b1) ∧ W.cell? ⟨w.heap.size + 1, 3, none⟩ = some (.string o1) ∧ Below w.heap.size w W := by
    rw [eW]
    exact ⟨blk_cell k1 0, blk_cell k1 1, blk_cell k1 2, blk_cell k1 3, blk_cell m1 0, blk_cell m1 1, blk_cell m1 2, blk_cell m1 3, x2⟩
  have HD := lkS8 HS (Below.drew (Below.refl _ _))
  have HE := HD.2.2.2.2.2.2.2.2
  have hnn := fun w => run_nil_nil Tryz.underlying37 w
  clear x1 x2 k1 m1 h0 h1 hc0 hc1 q0 q1 s0 s1 a0 a1 hL e0 e1
  generalize (if lkC (zn l0) (zn l1) b0 b1 = 0 then cI n0 n1 else lkC (zn l0) (zn l1) b0 b1) = r at *
  generalize zn l0 = z0 at *
  generalize zn l1 = z1 at *
  generalize zi l0 = i0 at *
  generalize zi l1 = i1 at *
  go_enter Tryz.func11, Tryz.ntmps11
  go_wp2_with fail
  rw [← eW]
  clear eW
  go_region_held3 (fun w' => w'.cell? ⟨w.heap.size, 0, none⟩ = some (.bool lv0) ∧ w'.cell? ⟨w.heap.size, 1, none⟩ = some (.slice A0 n0 c0) ∧ w'.cell? ⟨w.heap.size, 2, none⟩ = some (.string b0) ∧ w'.cell? ⟨w.heap.size, 3, none⟩ = some (.string o0) ∧ w'.cell? ⟨w.heap.size + 1, 0, none⟩ = some (.bool lv1) ∧ w'.cell? ⟨w.heap.size + 1, 1, none⟩ = some (.slice A1 n1 c1) ∧ w'.cell? ⟨w.heap.size + 1, 2, none⟩ = some (.string b1) ∧ w'.cell? ⟨w.heap.size + 1, 3, none⟩ = some (.string o1) ∧ Below w.heap.size w w') (first | (with_reducible assumption) | (with_reducible exact lkS8 (by with_reducible assumption) (by with_reducible assumption))) (first | (go_at_call 19; (with_reducible refine (lk0 _ HE).mono ?_); rintro e w1 ⟨B, d, rfl, r1, g1⟩; have HE1 := below_then HE HE.size g1) | (go_at_call 19; (with_reducible refine (lk1 _ HE2).mono ?_); rintro e w3 ⟨B3, d3, rfl, r3, g3⟩; have HE3 := below_then HE2 HE2.size g3; have R23 := R2.below g3) | (go_at_call 22; (with_reducible refine (mk0 _ _ _ r1).mono ?_); rintro e w2 ⟨B2, d2, rfl, r2, g2⟩; have HE2 := below_then HE1 HE1.size g2; have R2 := r2.lower HE1.size) | (go_at_call 22; (with_reducible refine (mk1 _ _ _ r3).mono ?_); rintro e w4 ⟨B4, d4, rfl, r4, g4⟩; have HE4 := below_then HE3 HE3.size g4; have R24 := R23.below g4; have R4 := r4.lower HE3.size) | (go_at_call 23; (with_reducible refine (cp _ _ _ _ _ HE4 R24 R4).mono ?_); rintro e w5 ⟨rfl, g5⟩; have HE5 := below_then HE4 HE4.size g5))
  go_wp2_with fail
  go_quiet (fail)
  go_wp2_with fail
  go_ret2
  exact ⟨rfl, bel_drewN HE5 _⟩
end Go.Proofs.YtdpeadckejhloaaGreatDoor.Giv

namespace Go.Proofs.YtdpeadckejhloaaGreatDoor.Giv
open Go.RowKit Go.Proofs.YtdpeadckejhloaaGreatDoorW.PrintWords Go.Proofs.YtdpeadckejhloaaGreatDoorW.PrintLast Go.Proofs.YtdpeadckejhloaaGreatDoor.Pk Go.Proofs.YtdpeadckejhloaaGreatDoor.Ord Go.Proofs.YtdpeadckejhloaaGreatDoor.QH
set_option linter.unusedVariables false
set_option linter.unusedSimpArgs false
/-- The law's calls answer as it says. -/
def haTold (k : Nat) (a b : S24) : Prop :=
  laws_zzFits4.f k a.f0 a.f1 a.f2 a.f3 = some false ∨ (laws_zzFits4.f k a.f0 a.f1 a.f2 a.f3 = some true ∧ (laws_zzFits4.f k b.f0 b.f1 b.f2 b.f3 = some false ∨ (laws_zzFits4.f k b.f0 b.f1 b.f2 b.f3 = some true ∧ (laws_likes.f k [a, b] = some false ∨ (laws_likes.f k [a, b] = some true ∧ small a.f1 = true ∧ small b.f1 = true ∧ a.f2.size ≤ 40000 ∧ b.f2.size ≤ 40000 ∧ Asc a.f2 ∧ Asc b.f2 ∧ ∃ x : Int, spec_HackageCompare.f k a.f0 a.f1 a.f2 a.f3 b.f0 b.f1 b.f2 b.f3 = some (x, true) ∧ (if lkC (zn a.f1) (zn b.f1) a.f2 b.f2 = 0 then cI a.f1.length b.f1.length else lkC (zn a.f1) (zn b.f1) a.f2 b.f2) = x ∧ (if lkC (zn b.f1) (zn a.f1) b.f2 a.f2 = 0 then cI b.f1.length a.f1.length else lkC (zn b.f1) (zn a.f1) b.f2 a.f2) = -x ∧ laws_turned.f x (-x) = some true)))))
theorem ha_row (lv0 lv1 : Bool) (A0 A1 : Option Addr) (n0 c0 n1 c1 : Nat) (l0 l1 : List S55) (b0 o0 b1 o1 : ByteArray) (w : World) (g : Nat) (hg : w.heap[g]? = some (Obj.cells #[Value.bool lv0, .slice A0 n0 c0, .string b0, .string o0, .bool lv1, .slice A1 n1 c1, .string b1, .string o1] 24 (0, 0))) (e0 : n0 = l0.length) (e1 : n1 = l1.length) (h0 : Kd.C k55 w A0 l0.length l0) (h1 : Kd.C k55 w A1 l1.length l1) (hc0 : l0.length ≤ c0) (hc1 : l1.length ≤ c1) : Kd.C k24 w (some ⟨g, 0, none⟩) ([⟨lv0, l0, b0, o0⟩, ⟨lv1, l1, b1, o1⟩] : List S24).length [⟨lv0, l0, b0, o0⟩, ⟨lv1, l1, b1, o1⟩] := by
  subst e0
  subst e1
  refine ⟨rfl, by simp, fun _ => ⟨_, rfl, ?_⟩⟩
  intro j q hj
  match j, hj with
  | 0, hj =>
    obtain rfl := Option.some.inj hj
    refine ⟨_, rfl, k24_mk w ⟨lv0, l0, b0, o0⟩ hc0 h0, ?_⟩
    intro i u hu
    match i, hu with
    | 0, hu => obtain rfl := Option.some.inj hu; exact blk_cell hg 0
    | 1, hu => obtain rfl := Option.some.inj hu; exact blk_cell hg 1
    | 2, hu => obtain rfl := Option.some.inj hu; exact blk_cell hg 2
    | 3, hu => obtain rfl := Option.some.inj hu; exact blk_cell hg 3
  | 1, hj =>
    obtain rfl := Option.some.inj hj
    refine ⟨_, rfl, k24_mk w ⟨lv1, l1, b1, o1⟩ hc1 h1, ?_⟩
    intro i u hu
    match i, hu with
    | 0, hu => obtain rfl := Option.some.inj hu; exact blk_cell hg 4
    | 1, hu => obtain rfl := Option.some.inj hu; exact blk_cell hg 5
    | 2, hu => obtain rfl := Option.some.inj hu; exact blk_cell hg 6
    | 3, hu => obtain rfl := Option.some.inj hu; exact blk_cell hg 7
set_option maxRecDepth 100000 in
set_option maxHeartbeats 8000000 in
theorem ha_w1 (lv0 lv1 : Bool) (A0 A1 : Option Addr) (n0 c0 n1 c1 : Nat) (l0 l1 : List S55) (b0 o0 b1 o1 : ByteArray) (w : World) (e0 : n0 = l0.length) (e1 : n1 = l1.length) (h0 : Kd.C k55 w A0 l0.length l0) (h1 : Kd.C k55 w A1 l1.length l1) (hc0 : l0.length ≤ c0) (hc1 : l1.length ≤ c1) (hL : Laid w) (k : Nat) (hf0 : laws_zzFits4.f k lv0 l0 b0 o0 = some false) :
    Calls Tryz.prog 4 #[.agg #[.bool lv0, .slice A0 n0 c0, .string b0, .string o0], .agg #[.bool lv1, .slice A1 n1 c1, .string b1, .string o1]] w fun e w' => e = .returned (.bool true) ∧ Below w.heap.size w w' := by
  have F0 : ∀ w' : World, Below w.heap.size w w' → Calls Tryz.prog 5 #[.agg #[.bool lv0, .slice A0 n0 c0, .string b0, .string o0]] w' fun e w'' => e = .returned (.bool false) ∧ Below w'.heap.size w' w'' := fun w' d => by subst e0; exact laws_zzFits4.calls k lv0 A0 c0 l0 b0 o0 false w' (Kd.C_below h0 d) hc0 hf0
  have x1 := below_alloc (Below.refl w.heap.size w) (Obj.cells #[Value.bool lv0, .slice A0 n0 c0, .string b0, .string o0] 24)
  have x2 := below_alloc x1 (Obj.cells #[Value.bool lv1, .slice A1 n1 c1, .string b1, .string o1] 24)
  have k1 : ((w.alloc (Obj.cells #[Value.bool lv0, .slice A0 n0 c0, .string b0, .string o0] 24)).alloc (Obj.cells #[Value.bool lv1, .slice A1 n1 c1, .string b1, .string o1] 24)).heap[w.heap.size]? = some (Obj.cells #[Value.bool lv0, .slice A0 n0 c0, .string b0, .string o0] 24) := blk_alloc (blk_new w _) _
  have m1 : ((w.alloc (Obj.cells #[Value.bool lv0, .slice A0 n0 c0, .string b0, .string o0] 24)).alloc (Obj.cells #[Value.bool lv1, .slice A1 n1 c1, .string b1, .string o1] 24)).heap[w.heap.size + 1]? = some (Obj.cells #[Value.bool lv1, .slice A1 n1 c1, .string b1, .string o1] 24) := by
    have := blk_new (w.alloc (Obj.cells #[Value.bool lv0, .slice A0 n0 c0, .string b0, .string o0] 24)) (Obj.cells #[Value.bool lv1, .slice A1 n1 c1, .string b1, .string o1] 24)
    simpa using this
  have p0 := blk_cell k1 0
  have y0 := blk_cell m1 0
  have p1 := blk_cell k1 1
  have y1 := blk_cell m1 1
  have p2 := blk_cell k1 2
  have y2 := blk_cell m1 2
  have p3 := blk_cell k1 3
  have y3 := blk_cell m1 3
  have X0 := Aside0.mk x2
  have K0 := Aside0.mk k1
  have M0 := Aside0.mk m1
  clear x1 x2 k1 m1 h0 h1 hc0 hc1 hL e0 e1 hf0
  go_enter Tryz.func4, Tryz.ntmps4
  go_wp2_with (first | (go_at_call 5; (with_reducible refine (F0 _ X0.out).mono ?_); rintro e w1 ⟨rfl, d1⟩; have X1 := Aside0.mk (below_then X0.out (X0.out).size d1); have K1 := Aside0.mk ((d1.block _ (blk_lt K0.out)).trans K0.out); have M1 := Aside0.mk ((d1.block _ (blk_lt M0.out)).trans M0.out); have p1_0 := blk_cell K1.out 0; have y1_0 := blk_cell M1.out 0; have p1_1 := blk_cell K1.out 1; have y1_1 := blk_cell M1.out 1; have p1_2 := blk_cell K1.out 2; have y1_2 := blk_cell M1.out 2; have p1_3 := blk_cell K1.out 3; have y1_3 := blk_cell M1.out 3; clear d1))
  go_ret
  exact ⟨by first | rfl | (simp; done), X1.out⟩
set_option maxRecDepth 100000 in
set_option maxHeartbeats 8000000 in
theorem ha_w2 (lv0 lv1 : Bool) (A0 A1 : Option Addr) (n0 c0 n1 c1 : Nat) (l0 l1 : List S55) (b0 o0 b1 o1 : ByteArray) (w : World) (e0 : n0 = l0.length) (e1 : n1 = l1.length) (h0 : Kd.C k55 w A0 l0.length l0) (h1 : Kd.C k55 w A1 l1.length l1) (hc0 : l0.length ≤ c0) (hc1 : l1.length ≤ c1) (hL : Laid w) (k : Nat) (hf0 : laws_zzFits4.f k lv0 l0 b0 o0 = some true) (hf1 : laws_zzFits4.f k lv1 l1 b1 o1 = some false) :
    Calls Tryz.prog 4 #[.agg #[.bool lv0, .slice A0 n0 c0, .string b0, .string o0], .agg #[.bool lv1, .slice A1 n1 c1, .string b1, .string o1]] w fun e w' => e = .returned (.bool true) ∧ Below w.heap.size w w' := by
  have F0 : ∀ w' : World, Below w.heap.size w w' → Calls Tryz.prog 5 #[.agg #[.bool lv0, .slice A0 n0 c0, .string b0, .string o0]] w' fun e w'' => e = .returned (.bool true) ∧ Below w'.heap.size w' w'' := fun w' d => by subst e0; exact laws_zzFits4.calls k lv0 A0 c0 l0 b0 o0 true w' (Kd.C_below h0 d) hc0 hf0
  have F1 : ∀ w' : World, Below w.heap.size w w' → Calls Tryz.prog 5 #[.agg #[.bool lv1, .slice A1 n1 c1, .string b1, .string o1]] w' fun e w'' => e = .returned (.bool false) ∧ Below w'.heap.size w' w'' := fun w' d => by subst e1; exact laws_zzFits4.calls k lv1 A1 c1 l1 b1 o1 false w' (Kd.C_below h1 d) hc1 hf1
  have x1 := below_alloc (Below.refl w.heap.size w) (Obj.cells #[Value.bool lv0, .slice A0 n0 c0, .string b0, .string o0] 24)
  have x2 := below_alloc x1 (Obj.cells #[Value.bool lv1, .slice A1 n1 c1, .string b1, .string o1] 24)
  have k1 : ((w.alloc (Obj.cells #[Value.bool lv0, .slice A0 n0 c0, .string b0, .string o0] 24)).alloc (Obj.cells #[Value.bool lv1, .slice A1 n1 c1, .string b1, .string o1] 24)).heap[w.heap.size]? = some (Obj.cells #[Value.bool lv0, .slice A0 n0 c0, .string b0, .string o0] 24) := blk_alloc (blk_new w _) _
  have m1 : ((w.alloc (Obj.cells #[Value.bool lv0, .slice A0 n0 c0, .string b0, .string o0] 24)).alloc (Obj.cells #[Value.bool lv1, .slice A1 n1 c1, .string b1, .string o1] 24)).heap[w.heap.size + 1]? = some (Obj.cells #[Value.bool lv1, .slice A1 n1 c1, .string b1, .string o1] 24) := by
    have := blk_new (w.alloc (Obj.cells #[Value.bool lv0, .slice A0 n0 c0, .string b0, .string o0] 24)) (Obj.cells #[Value.bool lv1, .slice A1 n1 c1, .string b1, .string o1] 24)
    simpa using this
  have p0 := blk_cell k1 0
  have y0 := blk_cell m1 0
  have p1 := blk_cell k1 1
  have y1 := blk_cell m1 1
  have p2 := blk_cell k1 2
  have y2 := blk_cell m1 2
  have p3 := blk_cell k1 3
  have y3 := blk_cell m1 3
  have X0 := Aside0.mk x2
  have K0 := Aside0.mk k1
  have M0 := Aside0.mk m1
  clear x1 x2 k1 m1 h0 h1 hc0 hc1 hL e0 e1 hf0 hf1
  go_enter Tryz.func4, Tryz.ntmps4
  go_wp2_with (first | (go_at_call 5; (with_reducible refine (F0 _ X0.out).mono ?_); rintro e w1 ⟨rfl, d1⟩; have X1 := Aside0.mk (below_then X0.out (X0.out).size d1); have K1 := Aside0.mk ((d1.block _ (blk_lt K0.out)).trans K0.out); have M1 := Aside0.mk ((d1.block _ (blk_lt M0.out)).trans M0.out); have p1_0 := blk_cell K1.out 0; have y1_0 := blk_cell M1.out 0; have p1_1 := blk_cell K1.out 1; have y1_1 := blk_cell M1.out 1; have p1_2 := blk_cell K1.out 2; have y1_2 := blk_cell M1.out 2; have p1_3 := blk_cell K1.out 3; have y1_3 := blk_cell M1.out 3; clear d1) | (go_at_call 5; (with_reducible refine (F1 _ X1.out).mono ?_); rintro e w2 ⟨rfl, d2⟩; have X2 := Aside0.mk (below_then X1.out (X1.out).size d2); have K2 := Aside0.mk ((d2.block _ (blk_lt K1.out)).trans K1.out); have M2 := Aside0.mk ((d2.block _ (blk_lt M1.out)).trans M1.out); have p2_0 := blk_cell K2.out 0; have y2_0 := blk_cell M2.out 0; have p2_1 := blk_cell K2.out 1; have y2_1 := blk_cell M2.out 1; have p2_2 := blk_cell K2.out 2; have y2_2 := blk_cell M2.out 2; have p2_3 := blk_cell K2.out 3; have y2_3 := blk_cell M2.out 3; clear d2))
  go_ret
  exact ⟨by first | rfl | (simp; done), X2.out⟩
set_option maxRecDepth 100000 in
set_option maxHeartbeats 8000000 in
theorem ha_w3 (lv0 lv1 : Bool) (A0 A1 : Option Addr) (n0 c0 n1 c1 : Nat) (l0 l1 : List S55) (b0 o0 b1 o1 : ByteArray) (w : World) (e0 : n0 = l0.length) (e1 : n1 = l1.length) (h0 : Kd.C k55 w A0 l0.length l0) (h1 : Kd.C k55 w A1 l1.length l1) (hc0 : l0.length ≤ c0) (hc1 : l1.length ≤ c1) (hL : Laid w) (k : Nat) (hf0 : laws_zzFits4.f k lv0 l0 b0 o0 = some true) (hf1 : laws_zzFits4.f k lv1 l1 b1 o1 = some true) (hl : laws_likes.f k [⟨lv0, l0, b0, o0⟩, ⟨lv1, l1, b1, o1⟩] = some false) :
    Calls Tryz.prog 4 #[.agg #[.bool lv0, .slice A0 n0 c0, .string b0, .string o0], .agg #[.bool lv1, .slice A1 n1 c1, .string b1, .string o1]] w fun e w' => e = .returned (.bool true) ∧ Below w.heap.size w w' := by
  have F0 : ∀ w' : World, Below w.heap.size w w' → Calls Tryz.prog 5 #[.agg #[.bool lv0, .slice A0 n0 c0, .string b0, .string o0]] w' fun e w'' => e = .returned (.bool true) ∧ Below w'.heap.size w' w'' := fun w' d => by subst e0; exact laws_zzFits4.calls k lv0 A0 c0 l0 b0 o0 true w' (Kd.C_below h0 d) hc0 hf0
  have F1 : ∀ w' : World, Below w.heap.size w w' → Calls Tryz.prog 5 #[.agg #[.bool lv1, .slice A1 n1 c1, .string b1, .string o1]] w' fun e w'' => e = .returned (.bool true) ∧ Below w'.heap.size w' w'' := fun w' d => by subst e1; exact laws_zzFits4.calls k lv1 A1 c1 l1 b1 o1 true w' (Kd.C_below h1 d) hc1 hf1
  have FL : ∀ (w' : World) (g : Nat), Below w.heap.size w w' → w'.heap[g]? = some (Obj.cells #[Value.bool lv0, .slice A0 n0 c0, .string b0, .string o0, .bool lv1, .slice A1 n1 c1, .string b1, .string o1] 24 (0, 0)) → Calls Tryz.prog 6 #[.slice (some ⟨g, 0, none⟩) 2 2] w' fun e w'' => e = .returned (.bool false) ∧ Below w'.heap.size w' w'' := fun w' g d hg => laws_likes.calls k _ 2 [⟨lv0, l0, b0, o0⟩, ⟨lv1, l1, b1, o1⟩] false w' (ha_row lv0 lv1 A0 A1 n0 c0 n1 c1 l0 l1 b0 o0 b1 o1 w' g hg e0 e1 (Kd.C_below h0 d) (Kd.C_below h1 d) hc0 hc1) (Nat.le_refl _) hl
  have x1 := below_alloc (Below.refl w.heap.size w) (Obj.cells #[Value.bool lv0, .slice A0 n0 c0, .string b0, .string o0] 24)
  have x2 := below_alloc x1 (Obj.cells #[Value.bool lv1, .slice A1 n1 c1, .string b1, .string o1] 24)
  have k1 : ((w.alloc (Obj.cells #[Value.bool lv0, .slice A0 n0 c0, .string b0, .string o0] 24)).alloc (Obj.cells #[Value.bool lv1, .slice A1 n1 c1, .string b1, .string o1] 24)).heap[w.heap.size]? = some (Obj.cells #[Value.bool lv0, .slice A0 n0 c0, .string b0, .string o0] 24) := blk_alloc (blk_new w _) _
  have m1 : ((w.alloc (Obj.cells #[Value.bool lv0, .slice A0 n0 c0, .string b0, .string o0] 24)).alloc (Obj.cells #[Value.bool lv1, .slice A1 n1 c1, .string b1, .string o1] 24)).heap[w.heap.size + 1]? = some (Obj.cells #[Value.bool lv1, .slice A1 n1 c1, .string b1, .string o1] 24) := by
    have := blk_new (w.alloc (Obj.cells #[Value.bool lv0, .slice A0 n0 c0, .string b0, .string o0] 24)) (Obj.cells #[Value.bool lv1, .slice A1 n1 c1, .string b1, .string o1] 24)
    simpa using this
  have p0 := blk_cell k1 0
  have y0 := blk_cell m1 0
  have p1 := blk_cell k1 1
  have y1 := blk_cell m1 1
  have p2 := blk_cell k1 2
  have y2 := blk_cell m1 2
  have p3 := blk_cell k1 3
  have y3 := blk_cell m1 3
  have X0 := Aside0.mk x2
  have K0 := Aside0.mk k1
  have M0 := Aside0.mk m1
  clear x1 x2 k1 m1 h0 h1 hc0 hc1 hL e0 e1 hf0 hf1 hl
  go_enter Tryz.func4, Tryz.ntmps4
  go_wp2_with (first | (go_at_call 5; (with_reducible refine (F0 _ X0.out).mono ?_); rintro e w1 ⟨rfl, d1⟩; have X1 := Aside0.mk (below_then X0.out (X0.out).size d1); have K1 := Aside0.mk ((d1.block _ (blk_lt K0.out)).trans K0.out); have M1 := Aside0.mk ((d1.block _ (blk_lt M0.out)).trans M0.out); have p1_0 := blk_cell K1.out 0; have y1_0 := blk_cell M1.out 0; have p1_1 := blk_cell K1.out 1; have y1_1 := blk_cell M1.out 1; have p1_2 := blk_cell K1.out 2; have y1_2 := blk_cell M1.out 2; have p1_3 := blk_cell K1.out 3; have y1_3 := blk_cell M1.out 3; clear d1) | (go_at_call 5; (with_reducible refine (F1 _ X1.out).mono ?_); rintro e w2 ⟨rfl, d2⟩; have X2 := Aside0.mk (below_then X1.out (X1.out).size d2); have K2 := Aside0.mk ((d2.block _ (blk_lt K1.out)).trans K1.out); have M2 := Aside0.mk ((d2.block _ (blk_lt M1.out)).trans M1.out); have p2_0 := blk_cell K2.out 0; have y2_0 := blk_cell M2.out 0; have p2_1 := blk_cell K2.out 1; have y2_1 := blk_cell M2.out 1; have p2_2 := blk_cell K2.out 2; have y2_2 := blk_cell M2.out 2; have p2_3 := blk_cell K2.out 3; have y2_3 := blk_cell M2.out 3; clear d2) | (go_at_call 6; (with_reducible refine (FL _ _ (below_alloc X2.out _) (blk_new w2 (Obj.cells #[Value.bool lv0, .slice A0 n0 c0, .string b0, .string o0, .bool lv1, .slice A1 n1 c1, .string b1, .string o1] 24))).mono ?_); rintro e w3 ⟨rfl, d3⟩; have X3 := Aside0.mk (below_then (below_alloc X2.out (Obj.cells #[Value.bool lv0, .slice A0 n0 c0, .string b0, .string o0, .bool lv1, .slice A1 n1 c1, .string b1, .string o1] 24)) ((below_alloc X2.out (Obj.cells #[Value.bool lv0, .slice A0 n0 c0, .string b0, .string o0, .bool lv1, .slice A1 n1 c1, .string b1, .string o1] 24))).size d3); have K3 := Aside0.mk ((d3.block _ (blk_lt (blk_alloc K2.out (Obj.cells #[Value.bool lv0, .slice A0 n0 c0, .string b0, .string o0, .bool lv1, .slice A1 n1 c1, .string b1, .string o1] 24)))).trans (blk_alloc K2.out (Obj.cells #[Value.bool lv0, .slice A0 n0 c0, .string b0, .string o0, .bool lv1, .slice A1 n1 c1, .string b1, .string o1] 24))); have M3 := Aside0.mk ((d3.block _ (blk_lt (blk_alloc M2.out (Obj.cells #[Value.bool lv0, .slice A0 n0 c0, .string b0, .string o0, .bool lv1, .slice A1 n1 c1, .string b1, .string o1] 24)))).trans (blk_alloc M2.out (Obj.cells #[Value.bool lv0, .slice A0 n0 c0, .string b0, .string o0, .bool lv1, .slice A1 n1 c1, .string b1, .string o1] 24))); have p3_0 := blk_cell K3.out 0; have y3_0 := blk_cell M3.out 0; have p3_1 := blk_cell K3.out 1; have y3_1 := blk_cell M3.out 1; have p3_2 := blk_cell K3.out 2; have y3_2 := blk_cell M3.out 2; have p3_3 := blk_cell K3.out 3; have y3_3 := blk_cell M3.out 3; clear d3))
  go_ret
  exact ⟨by first | rfl | (simp; done), X3.out⟩
set_option maxRecDepth 100000 in
set_option maxHeartbeats 8000000 in
theorem ha_w4 (lv0 lv1 : Bool) (A0 A1 : Option Addr) (n0 c0 n1 c1 : Nat) (l0 l1 : List S55) (b0 o0 b1 o1 : ByteArray) (w : World) (e0 : n0 = l0.length) (e1 : n1 = l1.length) (h0 : Kd.C k55 w A0 l0.length l0) (h1 : Kd.C k55 w A1 l1.length l1) (hc0 : l0.length ≤ c0) (hc1 : l1.length ≤ c1) (hL : Laid w) (k : Nat) (hf0 : laws_zzFits4.f k lv0 l0 b0 o0 = some true) (hf1 : laws_zzFits4.f k lv1 l1 b1 o1 = some true) (hl : laws_likes.f k [⟨lv0, l0, b0, o0⟩, ⟨lv1, l1, b1, o1⟩] = some true) (q0 : small l0 = true) (q1 : small l1 = true) (s0 : b0.size ≤ 40000) (s1 : b1.size ≤ 40000) (a0 : Asc b0) (a1 : Asc b1) (r : Int) (hsp : spec_HackageCompare.f k lv0 l0 b0 o0 lv1 l1 b1 o1 = some (r, true)) (hi0 : (if lkC (zn l0) (zn l1) b0 b1 = 0 then cI n0 n1 else lkC (zn l0) (zn l1) b0 b1) = r) (hi1 : (if lkC (zn l1) (zn l0) b1 b0 = 0 then cI n1 n0 else lkC (zn l1) (zn l0) b1 b0) = -r) (htu : laws_turned.f r (-r) = some true) :
    Calls Tryz.prog 4 #[.agg #[.bool lv0, .slice A0 n0 c0, .string b0, .string o0], .agg #[.bool lv1, .slice A1 n1 c1, .string b1, .string o1]] w fun e w' => e = .returned (.bool true) ∧ Below w.heap.size w w' := by
  have F0 : ∀ w' : World, Below w.heap.size w w' → Calls Tryz.prog 5 #[.agg #[.bool lv0, .slice A0 n0 c0, .string b0, .string o0]] w' fun e w'' => e = .returned (.bool true) ∧ Below w'.heap.size w' w'' := fun w' d => by subst e0; exact laws_zzFits4.calls k lv0 A0 c0 l0 b0 o0 true w' (Kd.C_below h0 d) hc0 hf0
  have F1 : ∀ w' : World, Below w.heap.size w w' → Calls Tryz.prog 5 #[.agg #[.bool lv1, .slice A1 n1 c1, .string b1, .string o1]] w' fun e w'' => e = .returned (.bool true) ∧ Below w'.heap.size w' w'' := fun w' d => by subst e1; exact laws_zzFits4.calls k lv1 A1 c1 l1 b1 o1 true w' (Kd.C_below h1 d) hc1 hf1
  have FL : ∀ (w' : World) (g : Nat), Below w.heap.size w w' → w'.heap[g]? = some (Obj.cells #[Value.bool lv0, .slice A0 n0 c0, .string b0, .string o0, .bool lv1, .slice A1 n1 c1, .string b1, .string o1] 24 (0, 0)) → Calls Tryz.prog 6 #[.slice (some ⟨g, 0, none⟩) 2 2] w' fun e w'' => e = .returned (.bool true) ∧ Below w'.heap.size w' w'' := fun w' g d hg => laws_likes.calls k _ 2 [⟨lv0, l0, b0, o0⟩, ⟨lv1, l1, b1, o1⟩] true w' (ha_row lv0 lv1 A0 A1 n0 c0 n1 c1 l0 l1 b0 o0 b1 o1 w' g hg e0 e1 (Kd.C_below h0 d) (Kd.C_below h1 d) hc0 hc1) (Nat.le_refl _) hl
  have SP : ∀ w' : World, Below w.heap.size w w' → Calls Tryz.prog 10 #[.agg #[.bool lv0, .slice A0 n0 c0, .string b0, .string o0], .agg #[.bool lv1, .slice A1 n1 c1, .string b1, .string o1]] w' fun e w'' => e = .returned (.tuple #[.int .i64 r, .bool true]) ∧ Below w'.heap.size w' w'' := fun w' d => by subst e0; subst e1; exact spec_HackageCompare.calls k lv0 A0 c0 l0 b0 o0 lv1 A1 c1 l1 b1 o1 r true w' (Kd.C_below h0 d) hc0 (Kd.C_below h1 d) hc1 hsp
  have I0 : ∀ w' : World, Below w.heap.size w w' → Calls Tryz.prog 11 #[.agg #[.bool lv0, .slice A0 n0 c0, .string b0, .string o0], .agg #[.bool lv1, .slice A1 n1 c1, .string b1, .string o1]] w' fun e w'' => e = .returned (.tuple #[.int .i64 r, .bool true]) ∧ Below w'.heap.size w' w'' := fun w' d => by
    have := hkImpl_calls lv0 lv1 A0 A1 n0 c0 n1 c1 l0 l1 b0 o0 b1 o1 w' e0 e1 (Kd.C_below h0 d) (Kd.C_below h1 d) hc0 hc1 q0 q1 s0 s1 a0 a1 (hL.below d)
    rwa [hi0] at this
  have I1 : ∀ w' : World, Below w.heap.size w w' → Calls Tryz.prog 11 #[.agg #[.bool lv1, .slice A1 n1 c1, .string b1, .string o1], .agg #[.bool lv0, .slice A0 n0 c0, .string b0, .string o0]] w' fun e w'' => e = .returned (.tuple #[.int .i64 (-r), .bool true]) ∧ Below w'.heap.size w' w'' := fun w' d => by
    have := hkImpl_calls lv1 lv0 A1 A0 n1 c1 n0 c0 l1 l0 b1 o1 b0 o0 w' e1 e0 (Kd.C_below h1 d) (Kd.C_below h0 d) hc1 hc0 q1 q0 s1 s0 a1 a0 (hL.below d)
    rwa [hi1] at this
  have TU : ∀ w' : World, Calls Tryz.prog 9 #[.int .i64 r, .int .i64 (-r)] w' fun e w'' => e = .returned (.bool true) ∧ Below w'.heap.size w' w'' := fun w' => (laws_turned.calls r (-r) true w' htu).mono (fun e w2 h => ⟨h.1, h.2.below⟩)
  have x1 := below_alloc (Below.refl w.heap.size w) (Obj.cells #[Value.bool lv0, .slice A0 n0 c0, .string b0, .string o0] 24)
  have x2 := below_alloc x1 (Obj.cells #[Value.bool lv1, .slice A1 n1 c1, .string b1, .string o1] 24)
  have k1 : ((w.alloc (Obj.cells #[Value.bool lv0, .slice A0 n0 c0, .string b0, .string o0] 24)).alloc (Obj.cells #[Value.bool lv1, .slice A1 n1 c1, .string b1, .string o1] 24)).heap[w.heap.size]? = some (Obj.cells #[Value.bool lv0, .slice A0 n0 c0, .string b0, .string o0] 24) := blk_alloc (blk_new w _) _
  have m1 : ((w.alloc (Obj.cells #[Value.bool lv0, .slice A0 n0 c0, .string b0, .string o0] 24)).alloc (Obj.cells #[Value.bool lv1, .slice A1 n1 c1, .string b1, .string o1] 24)).heap[w.heap.size + 1]? = some (Obj.cells #[Value.bool lv1, .slice A1 n1 c1, .string b1, .string o1] 24) := by
    have := blk_new (w.alloc (Obj.cells #[Value.bool lv0, .slice A0 n0 c0, .string b0, .string o0] 24)) (Obj.cells #[Value.bool lv1, .slice A1 n1 c1, .string b1, .string o1] 24)
    simpa using this
  have p0 := blk_cell k1 0
  have y0 := blk_cell m1 0
  have p1 := blk_cell k1 1
  have y1 := blk_cell m1 1
  have p2 := blk_cell k1 2
  have y2 := blk_cell m1 2
  have p3 := blk_cell k1 3
  have y3 := blk_cell m1 3
  have X0 := Aside0.mk x2
  have K0 := Aside0.mk k1
  have M0 := Aside0.mk m1
  clear x1 x2 k1 m1 h0 h1 hc0 hc1 hL e0 e1 hf0 hf1 hl hsp hi0 hi1 htu q0 q1 s0 s1 a0 a1
  go_enter Tryz.func4, Tryz.ntmps4
  go_wp2_with (first | (go_at_call 5; (with_reducible refine (F0 _ X0.out).mono ?_); rintro e w1 ⟨rfl, d1⟩; have X1 := Aside0.mk (below_then X0.out (X0.out).size d1); have K1 := Aside0.mk ((d1.block _ (blk_lt K0.out)).trans K0.out); have M1 := Aside0.mk ((d1.block _ (blk_lt M0.out)).trans M0.out); have p1_0 := blk_cell K1.out 0; have y1_0 := blk_cell M1.out 0; have p1_1 := blk_cell K1.out 1; have y1_1 := blk_cell M1.out 1; have p1_2 := blk_cell K1.out 2; have y1_2 := blk_cell M1.out 2; have p1_3 := blk_cell K1.out 3; have y1_3 := blk_cell M1.out 3; clear d1) | (go_at_call 5; (with_reducible refine (F1 _ X1.out).mono ?_); rintro e w2 ⟨rfl, d2⟩; have X2 := Aside0.mk (below_then X1.out (X1.out).size d2); have K2 := Aside0.mk ((d2.block _ (blk_lt K1.out)).trans K1.out); have M2 := Aside0.mk ((d2.block _ (blk_lt M1.out)).trans M1.out); have p2_0 := blk_cell K2.out 0; have y2_0 := blk_cell M2.out 0; have p2_1 := blk_cell K2.out 1; have y2_1 := blk_cell M2.out 1; have p2_2 := blk_cell K2.out 2; have y2_2 := blk_cell M2.out 2; have p2_3 := blk_cell K2.out 3; have y2_3 := blk_cell M2.out 3; clear d2) | (go_at_call 6; (with_reducible refine (FL _ _ (below_alloc X2.out _) (blk_new w2 (Obj.cells #[Value.bool lv0, .slice A0 n0 c0, .string b0, .string o0, .bool lv1, .slice A1 n1 c1, .string b1, .string o1] 24))).mono ?_); rintro e w3 ⟨rfl, d3⟩; have X3 := Aside0.mk (below_then (below_alloc X2.out (Obj.cells #[Value.bool lv0, .slice A0 n0 c0, .string b0, .string o0, .bool lv1, .slice A1 n1 c1, .string b1, .string o1] 24)) ((below_alloc X2.out (Obj.cells #[Value.bool lv0, .slice A0 n0 c0, .string b0, .string o0, .bool lv1, .slice A1 n1 c1, .string b1, .string o1] 24))).size d3); have K3 := Aside0.mk ((d3.block _ (blk_lt (blk_alloc K2.out (Obj.cells #[Value.bool lv0, .slice A0 n0 c0, .string b0, .string o0, .bool lv1, .slice A1 n1 c1, .string b1, .string o1] 24)))).trans (blk_alloc K2.out (Obj.cells #[Value.bool lv0, .slice A0 n0 c0, .string b0, .string o0, .bool lv1, .slice A1 n1 c1, .string b1, .string o1] 24))); have M3 := Aside0.mk ((d3.block _ (blk_lt (blk_alloc M2.out (Obj.cells #[Value.bool lv0, .slice A0 n0 c0, .string b0, .string o0, .bool lv1, .slice A1 n1 c1, .string b1, .string o1] 24)))).trans (blk_alloc M2.out (Obj.cells #[Value.bool lv0, .slice A0 n0 c0, .string b0, .string o0, .bool lv1, .slice A1 n1 c1, .string b1, .string o1] 24))); have p3_0 := blk_cell K3.out 0; have y3_0 := blk_cell M3.out 0; have p3_1 := blk_cell K3.out 1; have y3_1 := blk_cell M3.out 1; have p3_2 := blk_cell K3.out 2; have y3_2 := blk_cell M3.out 2; have p3_3 := blk_cell K3.out 3; have y3_3 := blk_cell M3.out 3; clear d3) | (go_at_call 10; (with_reducible refine (SP _ X3.out).mono ?_); rintro e w4 ⟨rfl, d4⟩; have X4 := Aside0.mk (below_then X3.out (X3.out).size d4); have K4 := Aside0.mk ((d4.block _ (blk_lt K3.out)).trans K3.out); have M4 := Aside0.mk ((d4.block _ (blk_lt M3.out)).trans M3.out); have p4_0 := blk_cell K4.out 0; have y4_0 := blk_cell M4.out 0; have p4_1 := blk_cell K4.out 1; have y4_1 := blk_cell M4.out 1; have p4_2 := blk_cell K4.out 2; have y4_2 := blk_cell M4.out 2; have p4_3 := blk_cell K4.out 3; have y4_3 := blk_cell M4.out 3; clear d4) | (go_at_call 11; (with_reducible refine (I0 _ X4.out).mono ?_); rintro e w5 ⟨rfl, d5⟩; have X5 := Aside0.mk (below_then X4.out (X4.out).size d5); have K5 := Aside0.mk ((d5.block _ (blk_lt K4.out)).trans K4.out); have M5 := Aside0.mk ((d5.block _ (blk_lt M4.out)).trans M4.out); have p5_0 := blk_cell K5.out 0; have y5_0 := blk_cell M5.out 0; have p5_1 := blk_cell K5.out 1; have y5_1 := blk_cell M5.out 1; have p5_2 := blk_cell K5.out 2; have y5_2 := blk_cell M5.out 2; have p5_3 := blk_cell K5.out 3; have y5_3 := blk_cell M5.out 3; clear d5) | (go_at_call 11; (with_reducible refine (I1 _ X5.out).mono ?_); rintro e w6 ⟨rfl, d6⟩; have X6 := Aside0.mk (below_then X5.out (X5.out).size d6); have K6 := Aside0.mk ((d6.block _ (blk_lt K5.out)).trans K5.out); have M6 := Aside0.mk ((d6.block _ (blk_lt M5.out)).trans M5.out); have p6_0 := blk_cell K6.out 0; have y6_0 := blk_cell M6.out 0; have p6_1 := blk_cell K6.out 1; have y6_1 := blk_cell M6.out 1; have p6_2 := blk_cell K6.out 2; have y6_2 := blk_cell M6.out 2; have p6_3 := blk_cell K6.out 3; have y6_3 := blk_cell M6.out 3; clear d6) | (go_at_call 9; (with_reducible refine (TU _).mono ?_); rintro e w7 ⟨rfl, d7⟩; have X7 := Aside0.mk (below_then X6.out (X6.out).size d7); have K7 := Aside0.mk ((d7.block _ (blk_lt K6.out)).trans K6.out); have M7 := Aside0.mk ((d7.block _ (blk_lt M6.out)).trans M6.out); have p7_0 := blk_cell K7.out 0; have y7_0 := blk_cell M7.out 0; have p7_1 := blk_cell K7.out 1; have y7_1 := blk_cell M7.out 1; have p7_2 := blk_cell K7.out 2; have y7_2 := blk_cell M7.out 2; have p7_3 := blk_cell K7.out 3; have y7_3 := blk_cell M7.out 3; clear d7))
  go_ret
  exact ⟨by first | rfl | (simp; done), X7.out⟩
theorem haLaw_calls (k : Nat) (lv0 : Bool) (A0 : Option Addr) (c0 : Nat) (l0 : List S55) (b0 o0 : ByteArray) (lv1 : Bool) (A1 : Option Addr) (c1 : Nat) (l1 : List S55) (b1 o1 : ByteArray) (w : World) (h0 : Kd.C k55 w A0 l0.length l0) (hc0 : l0.length ≤ c0) (h1 : Kd.C k55 w A1 l1.length l1) (hc1 : l1.length ≤ c1) (h : haTold k ⟨lv0, l0, b0, o0⟩ ⟨lv1, l1, b1, o1⟩) (hL : Laid w) :
    Calls Tryz.prog 4 #[.agg #[.bool lv0, .slice A0 l0.length c0, .string b0, .string o0], .agg #[.bool lv1, .slice A1 l1.length c1, .string b1, .string o1]] w fun e w' => e = .returned (.bool true) ∧ Below w.heap.size w w' := by
  rcases h with h | ⟨g0, h | ⟨g1, h | ⟨g2, q0, q1, s0, s1, a0, a1, r, hs, i0, i1, t⟩⟩⟩
  · exact ha_w1 lv0 lv1 A0 A1 l0.length c0 l1.length c1 l0 l1 b0 o0 b1 o1 w rfl rfl h0 h1 hc0 hc1 hL k h
  · exact ha_w2 lv0 lv1 A0 A1 l0.length c0 l1.length c1 l0 l1 b0 o0 b1 o1 w rfl rfl h0 h1 hc0 hc1 hL k g0 h
  · exact ha_w3 lv0 lv1 A0 A1 l0.length c0 l1.length c1 l0 l1 b0 o0 b1 o1 w rfl rfl h0 h1 hc0 hc1 hL k g0 g1 h
  · exact ha_w4 lv0 lv1 A0 A1 l0.length c0 l1.length c1 l0 l1 b0 o0 b1 o1 w rfl rfl h0 h1 hc0 hc1 hL k g0 g1 g2 q0 q1 s0 s1 a0 a1 r hs i0 i1 t
end Go.Proofs.YtdpeadckejhloaaGreatDoor.Giv
