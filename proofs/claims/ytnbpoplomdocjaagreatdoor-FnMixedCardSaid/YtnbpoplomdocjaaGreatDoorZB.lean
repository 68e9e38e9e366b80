/- The comparison of words answers as Dg.cW says.
   Contracts by hand: whole numbers of any size: what they are in memory, and how two compare.
   Contracts by hand: rows of words: made, and without zeros at their end.
   Contracts by hand: words: the double product, the sum with carry, x·y + c in two words.
   Contracts by hand: a row of words times a word plus a word, in place or into another row.
   Contracts by hand: a number times a word plus a word, in its own row or in a new one. -/
import Derived.Test.YtnbpoplomdocjaaGreatDoorZD
import Derived.Test.YtnbpoplomdocjaaGreatDoorZA
import Derived.Test.YtnbpoplomdocjaaGreatDoorQMx
import Derived.BigQuiet
import Derived.LaidEqlPtr
import Derived.Lib.Mul64
import Derived.Laws.Bits64b
import Derived.Laws.Externs
namespace Go.Proofs.YtnbpoplomdocjaaGreatDoor.QM
open Go.RowKit Go.Proofs.YtnbpoplomdocjaaGreatDoorW.PrintWords Go.Proofs.YtnbpoplomdocjaaGreatDoorW.PrintLast Go.Proofs.YtnbpoplomdocjaaGreatDoor.Pk Go.Proofs.YtnbpoplomdocjaaGreatDoor.Giv Go.Proofs.YtnbpoplomdocjaaGreatDoor.Ord
set_option linter.unusedVariables false

def ws (l : List Nat) : List Int := l.map Int.ofNat
theorem ws_len (l : List Nat) : (ws l).length = l.length := by simp [ws]
theorem ws_rd (l : List Nat) (i : Nat) (h : i < l.length) : rd (ws l) (i : Int) = ((l[i]'h : Nat) : Int) := by
  rw [rd_nat _ _ (by rw [ws_len]; exact h)]
  simp [ws]
theorem cmp_end (l m : List Nat) (hlm : l.length = m.length) (i : Nat) (hi : i < l.length) : Ev (fun k => bigall_nat_cmp.j2 k (ws l) (ws m) 0 (i : Int)) (cI (l[i]'hi) (m[i]'(by omega))) := by
  have hm : i < m.length := by omega
  have r1 := ws_rd l i hi
  have r2 := ws_rd m i hm
  refine Ev.step (fun k => by rw [bigall_nat_cmp.j2, r1, r2, ws_len, ws_len]) ?_
  refine ev_pos (by omega) (ev_pos (by omega) (ev_pos (by omega) ?_))
  unfold cI
  by_cases h : (l[i] : Int) < (m[i] : Int)
  · refine ev_pos h ?_
    rw [if_pos h]
    exact Ev.now _
  · refine ev_neg h ?_
    rw [if_neg h]
    by_cases h' : (l[i] : Int) > (m[i] : Int)
    · refine ev_pos h' ?_
      rw [if_pos h']
      exact Ev.now _
    · refine ev_neg h' ?_
      rw [if_neg h']
      exact Ev.now _
theorem cmp_loop (l m : List Nat) (hlm : l.length = m.length) (hl : l.length < 4611686018427387904) (i : Nat) : ∀ hi : i < l.length, Ev (fun k => bigall_nat_cmp.l0 k (ws l) (ws m) 0 (i : Int)) (Dg.cE (l.take (i + 1)) (m.take (i + 1))) := by
  induction i with
  | zero =>
    intro hi
    have hm : 0 < m.length := by omega
    refine Ev.step (fun k => by rw [bigall_nat_cmp.l0]) ?_
    refine ev_neg (by omega) ?_
    have := cmp_end l m hlm 0 hi
    have e : Dg.cE (l.take (0 + 1)) (m.take (0 + 1)) = cI (l[0]'hi) (m[0]'hm) := by
      rw [List.take_succ_eq_append_getElem hi, List.take_succ_eq_append_getElem hm, Dg.cE_snoc _ _ _ _ (by simp)]
      simp only [List.take_zero, Dg.cE]
      by_cases z : cI ((l[0]'hi : Nat) : Int) ((m[0]'hm : Nat) : Int) = 0
      · rw [if_pos z, z]
      · rw [if_neg z]
    rw [e]
    exact this
  | succ i ih =>
    intro hi
    have hm : i + 1 < m.length := by omega
    have r1 := ws_rd l (i + 1) hi
    have r2 := ws_rd m (i + 1) hm
    have w : wrap64 (((i + 1 : Nat) : Int) - 1) = (i : Int) := by unfold wrap64; omega
    refine Ev.step (fun k => by rw [bigall_nat_cmp.l0, r1, r2, ws_len, ws_len, w]) ?_
    refine ev_pos (by omega) (ev_pos (by omega) (ev_pos (by omega) (ev_pos (by omega) ?_)))
    rw [List.take_succ_eq_append_getElem hi, List.take_succ_eq_append_getElem hm, Dg.cE_snoc _ _ _ _ (by rw [List.length_take, List.length_take]; omega)]
    by_cases h : ((l[i + 1]'hi : Nat) : Int) = ((m[i + 1]'hm : Nat) : Int)
    · refine ev_pos h ?_
      rw [if_pos (cI_zero.2 h)]
      exact ih (by omega)
    · refine ev_neg h ?_
      rw [if_neg (fun z => h (cI_zero.1 z))]
      exact cmp_end l m hlm (i + 1) hi
theorem natcmp_ev (l m : List Nat) (hl : l.length < 4611686018427387904) : Ev (fun k => bigall_nat_cmp.f k (ws l) (ws m)) (Dg.cW l m) := by
  unfold bigall_nat_cmp.f Dg.cW
  rw [ws_len, ws_len]
  by_cases h : (l.length : Int) = (m.length : Int)
  · refine ev_pos h ?_
    rw [if_pos (by omega)]
    refine Ev.step (fun k => by rw [bigall_nat_cmp.j0]) ?_
    by_cases z : l.length = 0
    · refine ev_pos (by rw [beq_iff_eq]; omega) (ev_neg (by omega) (ev_neg (by omega) ?_))
      have e1 : l = [] := List.length_eq_zero_iff.1 z
      rw [e1]
      simp only [Dg.cE]
      exact Ev.now _
    · refine ev_neg (by rw [beq_iff_eq]; omega) ?_
      have w : wrap64 ((l.length : Int) - 1) = ((l.length - 1 : Nat) : Int) := by unfold wrap64; omega
      rw [w]
      have := cmp_loop l m (by omega) hl (l.length - 1) (by omega)
      rw [show l.length - 1 + 1 = l.length by omega, List.take_of_length_le (Nat.le_refl _), List.take_of_length_le (by omega)] at this
      exact this
  · refine ev_neg h ?_
    rw [if_neg (by omega)]
    refine Ev.step (fun k => by rw [bigall_nat_cmp.j0]) ?_
    refine ev_pos rfl ?_
    unfold cI
    by_cases h1 : (l.length : Int) < (m.length : Int)
    · refine ev_pos h1 ?_
      rw [if_pos h1]
      exact Ev.now _
    · refine ev_neg h1 (ev_pos (by omega) ?_)
      rw [if_neg h1, if_pos (by omega)]
      exact Ev.now _
end Go.Proofs.YtnbpoplomdocjaaGreatDoor.QM

namespace Go.Proofs.YtnbpoplomdocjaaGreatDoor.Giv
open Go.RowKit Go.Proofs.YtnbpoplomdocjaaGreatDoorW.PrintWords Go.Proofs.YtnbpoplomdocjaaGreatDoorW.PrintLast Go.Proofs.YtnbpoplomdocjaaGreatDoor.Pk Go.Proofs.YtnbpoplomdocjaaGreatDoor.Ord Go.Proofs.YtnbpoplomdocjaaGreatDoor.QM
set_option linter.unusedVariables false
set_option linter.unusedSimpArgs false

/-- The number's words. -/
abbrev wd (z : Int) : List Nat := Dg.dg z.natAbs
/-- What leads to words leads to a block of words. -/
def WordsAt (w : World) (A : Option Addr) : Prop := ∀ a, A = some a → ∃ arr, w.heap[a.block]? = some (.cells arr 117 (0, 0))
/-- At block b lies the number z: its sign and its words. -/
def IsBig (w : World) (b : Nat) (z : Int) : Prop :=
  ∃ A c, w.heap[b]? = some (.cells #[.bool (decide (z < 0)), .slice A (ws (wd z)).length c] 91 (0, 0)) ∧ (ws (wd z)).length ≤ c ∧ (ws (wd z)).length ≤ 1000000 ∧ (Kd.int .u64).C w A (ws (wd z)).length (ws (wd z)) ∧ WordsAt w A
theorem IsBig.lt {w : World} {b : Nat} {z : Int} (h : IsBig w b z) : b < w.heap.size := by
  obtain ⟨A, c, h1, _⟩ := h
  exact (Array.getElem?_eq_some_iff.1 h1).1
theorem IsBig.below {w w' : World} {b : Nat} {z : Int} (h : IsBig w b z) (hb : Below w.heap.size w w') : IsBig w' b z := by
  have hl := h.lt
  obtain ⟨A, c, h1, h3, h4, h5, h6⟩ := h
  exact ⟨A, c, (hb.block b hl).trans h1, h3, h4, Kd.C_below h5 hb, fun a e => by
    obtain ⟨arr, ha⟩ := h6 a e
    exact ⟨arr, blk_below ha hb⟩⟩
theorem IsBig.drewN {w : World} {b : Nat} {z : Int} (h : IsBig w b z) (n : Nat) : IsBig (w.drewN n) b z := h.below (pw_below_drewN (Below.refl _ _) n)
theorem C_inj {w : World} {A : Option Addr} {n : Nat} {l m : List Int} (h : (Kd.int .u64).C w A n l) (h' : (Kd.int .u64).C w A n m) : l = m := by
  have e1 := Kd.C_len h
  have e2 := Kd.C_len h'
  refine List.ext_getElem (by omega) ?_
  intro i hi hi'
  obtain ⟨ad, ea, c1⟩ := Kd.at_int h (i : Int) (by omega) (by omega)
  obtain ⟨ad', ea', c2⟩ := Kd.at_int h' (i : Int) (by omega) (by omega)
  rw [ea] at ea'
  obtain rfl := Option.some.inj ea'
  rw [c1, rd_nat _ _ hi, rd_nat _ _ hi'] at c2
  simpa using c2
theorem ws_inj {l m : List Nat} (h : ws l = ws m) : l = m := by
  unfold ws at h
  have := congrArg (List.map Int.toNat) h
  simpa [List.map_map, Function.comp_def] using this
theorem IsBig.inj {w : World} {b : Nat} {z y : Int} (h : IsBig w b z) (h' : IsBig w b y) : z = y := by
  obtain ⟨A, c, h1, _, _, h5, _⟩ := h
  obtain ⟨A', c', h1', _, _, h5', _⟩ := h'
  rw [h1] at h1'
  have e := Option.some.inj h1'
  injection e with e1 e2 e3
  have e1' := congrArg Array.toList e1
  simp only [List.cons.injEq, Value.bool.injEq, Value.slice.injEq, and_true] at e1'
  obtain ⟨s, rfl, n, rfl⟩ := e1'
  rw [n] at h5
  have l := ws_inj (C_inj h5 h5')
  have v := congrArg Dg.val l
  rw [Dg.val_dg, Dg.val_dg] at v
  have s' : (z < 0) ↔ (y < 0) := by rw [← decide_eq_true_iff (p := z < 0), s, decide_eq_true_iff]
  omega
theorem cmp_val (x y : Int) : cI x y = if x < 0 ∧ y < 0 then - cI x.natAbs y.natAbs else if x < 0 then -1 else if y < 0 then 1 else cI x.natAbs y.natAbs := by
  unfold cI
  repeat' split
  all_goals omega
theorem natcmp_calls (x y : Int) (A0 A1 : Option Addr) (c0 c1 : Nat) (w : World) (h0 : (Kd.int .u64).C w A0 (ws (wd x)).length (ws (wd x))) (h1 : (Kd.int .u64).C w A1 (ws (wd y)).length (ws (wd y))) (hc0 : (ws (wd x)).length ≤ c0) (hc1 : (ws (wd y)).length ≤ c1) (hl : (ws (wd x)).length ≤ 1000000) :
    Calls Tryz.prog 102 #[.slice A0 (ws (wd x)).length c0, .slice A1 (ws (wd y)).length c1] w fun e w' => e = .returned (.int .i64 (cI x.natAbs y.natAbs)) ∧ Drawn0 w w' := by
  obtain ⟨K, h⟩ := natcmp_ev (wd x) (wd y) (by rw [ws_len] at hl; omega)
  have := bigall_nat_cmp.calls K A0 c0 (ws (wd x)) A1 c1 (ws (wd y)) _ w h0 hc0 h1 hc1 (h K (Nat.le_refl _))
  rwa [Dg.cW_dg] at this
set_option maxHeartbeats 1000000 in
theorem Cmp_calls (x y : Int) (a b : Nat) (w : World) (ha : IsBig w a x) (hb : IsBig w b y) :
    Calls Tryz.prog 78 #[.pointer (some ⟨a, 0, none⟩), .pointer (some ⟨b, 0, none⟩)] w fun e w' => e = .returned (.int .i64 (cI x y)) ∧ Drawn0 w w' := by
  have hinj := fun h : a = b => IsBig.inj (w := w) (b := b) (h ▸ ha) hb
  obtain ⟨A0, c0, x0, x2, x3, x4, _⟩ := ha
  obtain ⟨A1, c1, y0, y2, y3, y4, _⟩ := hb
  obtain ⟨j, hj, hs⟩ := Option.map_eq_some_iff.1 (show (Tryz.prog.info? 91).map (fun i => decide (i.size = 2)) = some true by kernel_rfl)
  have hjs : j.size ≠ 0 := by
    have := of_decide_eq_true hs
    omega
  have x00 := (blk_cell x0 0).trans rfl
  have x01 := (blk_cell x0 1).trans rfl
  have y00 := (blk_cell y0 0).trans rfl
  have y01 := (blk_cell y0 1).trans rfl
  go_enter Tryz.func78, Tryz.ntmps78
  by_cases hab : a = b
  · obtain rfl := hinj hab
    subst hab
    have he := run_eql_ptr_same (P := Tryz.prog) w (tp := 36) ⟨a, 0, none⟩ Tryz.underlying36 hj
    go_wp2_with fail
    go_ret
    exact ⟨by rw [cI_zero.2 rfl]; rfl, Drawn0.refl _⟩
  · have he := run_eql_ptr_other (P := Tryz.prog) w (tp := 36) (a := ⟨a, 0, none⟩) (b := ⟨b, 0, none⟩) Tryz.underlying36 hj hjs (fun h => hab (congrArg Addr.block h)) x0 y0
    have cc := fun (w' : World) (hb : Below w.heap.size w w') => natcmp_calls x y A0 A1 c0 c1 w' (Kd.C_below x4 hb) (Kd.C_below y4 hb) x2 y2 x3
    have hv := cmp_val x y
    have wl : wrap64 (-(cI (x.natAbs : Int) (y.natAbs : Int))) = -(cI (x.natAbs : Int) (y.natAbs : Int)) := by
      have := cI_cmp.rng (x.natAbs : Int) (y.natAbs : Int)
      unfold wrap64
      omega
    have dd : ∀ n, Drawn0 w (w.drewN n) := fun n => ⟨n, rfl⟩
    by_cases hx : x < 0
    · rw [decide_eq_true hx] at x00
      by_cases hy : y < 0
      · rw [decide_eq_true hy] at y00
        rw [if_pos ⟨hx, hy⟩] at hv
        go_wp2_with fail
        go_quiet (fail)
        go_wp2_with fail
        go_quiet (first | (go_at_call 102; refine (cc _ (by repeat (first | exact Below.refl _ _ | apply pw_below_drewN | apply below_drew))).mono ?_; rintro e w1 ⟨rfl, n, rfl⟩; (try first | exact ⟨rfl, _, World.drewN_drewN _ _ _⟩ | exact ⟨rfl, _, Eq.trans (World.drewN_drewN _ _ _) (congrArg (World.drewN _) (Nat.add_assoc _ _ _))⟩)))
        go_wp2_with fail
        go_ret
        exact ⟨by rw [hv]; exact congrArg (fun v => Ending.returned (Value.int IntKind.i64 v)) wl, dd _⟩
      · rw [decide_eq_false hy] at y00
        rw [if_neg (fun h => hy h.2), if_pos hx] at hv
        go_wp2_with fail
        go_quiet (fail)
        go_wp2_with fail
        go_ret
        exact ⟨by rw [hv]; rfl, dd _⟩
    · rw [decide_eq_false hx] at x00
      by_cases hy : y < 0
      · rw [decide_eq_true hy] at y00
        rw [if_neg (fun h => hx h.1), if_neg hx, if_pos hy] at hv
        go_wp2_with fail
        go_quiet (fail)
        go_wp2_with fail
        go_ret
        exact ⟨by rw [hv]; rfl, dd _⟩
      · rw [decide_eq_false hy] at y00
        rw [if_neg (fun h => hx h.1), if_neg hx, if_neg hy] at hv
        go_wp2_with fail
        go_quiet (fail)
        go_wp2_with fail
        go_quiet (first | (go_at_call 102; refine (cc _ (by repeat (first | exact Below.refl _ _ | apply pw_below_drewN | apply below_drew))).mono ?_; rintro e w1 ⟨rfl, n, rfl⟩; (try first | exact ⟨rfl, _, World.drewN_drewN _ _ _⟩ | exact ⟨rfl, _, Eq.trans (World.drewN_drewN _ _ _) (congrArg (World.drewN _) (Nat.add_assoc _ _ _))⟩)))
        go_wp2_with fail
        go_ret
        exact ⟨by rw [hv]; rfl, dd _⟩
end Go.Proofs.YtnbpoplomdocjaaGreatDoor.Giv

namespace Go.Proofs.YtnbpoplomdocjaaGreatDoor.Giv
open Go.RowKit Go.Proofs.YtnbpoplomdocjaaGreatDoorW.PrintWords Go.Proofs.YtnbpoplomdocjaaGreatDoorW.PrintLast Go.Proofs.YtnbpoplomdocjaaGreatDoor.Pk Go.Proofs.YtnbpoplomdocjaaGreatDoor.Ord Go.Proofs.YtnbpoplomdocjaaGreatDoor.QM
set_option linter.unusedVariables false
set_option linter.unusedSimpArgs false

/-- A word as a value. -/
def wv (d : Nat) : Value := .int .u64 (d : Int)
/-- At block h lie c words' places; the first ones hold l. -/
def Lies (w : World) (h c : Nat) (l : List Nat) : Prop := ∃ arr : Array Value, w.heap[h]? = some (.cells arr 117 (0, 0)) ∧ arr.size = c ∧ l.length ≤ c ∧ arr.toList.take l.length = l.map wv
theorem Lies.below {w w' : World} {h c : Nat} {l : List Nat} (hl : Lies w h c l) (hb : Below w.heap.size w w') : Lies w' h c l := by
  obtain ⟨arr, h1, h2⟩ := hl
  exact ⟨arr, blk_below h1 hb, h2⟩
theorem Lies.cell {w : World} {h c : Nat} {l : List Nat} (hl : Lies w h c l) (i : Nat) (hi : i < l.length) : w.cell? ⟨h, i, none⟩ = some (wv (l[i]'hi)) := by
  obtain ⟨arr, h1, h2, h3, h4⟩ := hl
  rw [blk_cell h1 i]
  have : (arr.toList.take l.length)[i]? = (l.map wv)[i]? := by rw [h4]
  rw [List.getElem?_take, if_pos hi, List.getElem?_map, List.getElem?_eq_getElem hi] at this
  simpa using this
theorem Lies.set {w : World} {h c : Nat} {l : List Nat} (hl : Lies w h c l) (k : Nat) (hk : k < l.length) (d : Nat) : Lies (w.setCell ⟨h, k, none⟩ (.int .u64 (d : Int))) h c (l.set k d) := by
  obtain ⟨arr, h1, h2, h3, h4⟩ := hl
  refine ⟨_, blk_put h1 k _ rfl, by rw [Array.size_setIfInBounds]; exact h2, by rw [List.length_set]; exact h3, ?_⟩
  rw [Array.toList_setIfInBounds, List.length_set, List.map_set, ← h4, List.take_set]
  rfl
theorem Lies.row {w : World} {h c : Nat} {l : List Nat} (hl : Lies w h c l) (hm : l.length ≤ 1000000) : (Kd.int .u64).C w (some ⟨h, 0, none⟩) (ws l).length (ws l) := by
  refine ⟨rfl, by rw [ws_len]; omega, fun _ => ⟨_, rfl, ?_⟩⟩
  intro j p hj
  have hlt : j < (ws l).length := (List.getElem?_eq_some_iff.1 hj).1
  rw [ws_len] at hlt
  have hp : p = ((l[j]'hlt : Nat) : Int) := by
    have := hj
    unfold ws at this
    rw [List.getElem?_map, List.getElem?_eq_getElem hlt] at this
    simpa using this.symm
  refine ⟨[.int .u64 p], rfl, rfl, ?_⟩
  intro i u hu
  have hi : i = 0 := by
    have := (List.getElem?_eq_some_iff.1 hu).1
    simp at this
    exact this
  subst hi
  have hu' : u = .int .u64 p := by simpa using hu.symm
  rw [hu', hp]
  have := hl.cell j hlt
  show w.cell? (Go.Addr.add _ (j * 1 + 0)) = _
  rw [Nat.mul_one, Nat.add_zero]
  unfold Go.Addr.add
  by_cases hz : j = 0
  · subst hz
    simpa [wv] using this
  · simpa [hz, wv] using this
theorem made_toList (v : Value) : ∀ n : Nat, (madeCells #[v] n).toList = List.replicate n v := by
  intro n
  refine List.ext_getElem (by rw [Array.length_toList, size_madeCells, List.length_replicate]) ?_
  intro i h1 h2
  rw [List.getElem_replicate]
  simp [madeCells, Nat.mod_one]
theorem lies_new (w : World) (n c : Nat) (h : n ≤ c) : Lies (w.alloc (.cells (madeCells #[.int .u64 0] c) 117)) w.heap.size c (List.replicate n 0) := by
  refine ⟨_, blk_new _ _, size_madeCells _ _, by rw [List.length_replicate]; exact h, ?_⟩
  rw [made_toList, List.length_replicate, List.take_replicate, Nat.min_eq_left h, List.map_replicate]
  rfl
set_option maxHeartbeats 1000000 in
set_option maxRecDepth 100000 in
theorem make_calls (n : Nat) (w : World) (hn : n ≤ 100000) :
    Calls Tryz.prog 140 #[.slice none 0 0, .int .i64 n] w fun e w' => Below w.heap.size w w' ∧ ((n = 0 ∧ e = .returned (.slice none 0 0)) ∨ (0 < n ∧ ∃ h c, e = .returned (.slice (some ⟨h, 0, none⟩) n c) ∧ w.heap.size ≤ h ∧ h < w'.heap.size ∧ Lies w' h c (List.replicate n 0))) := by
  obtain ⟨i, hi, hs⟩ := Option.map_eq_some_iff.1 (show (Tryz.prog.info? 117).map (fun i => (i.zero, i.size, i.bytes)) = some (some (.int .u64 0), 1, 8) by kernel_rfl)
  have z1 : i.zero = some (.int .u64 0) := congrArg (fun p => p.1) hs
  have z2 : i.size = 1 := congrArg (fun p => p.2.1) hs
  have z3 : i.bytes = 8 := congrArg (fun p => p.2.2) hs
  have mk := fun (l c : Int) (h0 : 0 ≤ l) (h1 : l ≤ c) (h2 : c ≤ 200000) => run_makeSlice (P := Tryz.prog) w 89 117 i (.int .u64 0) Tryz.underlying89 hi z1 .i64 .i64 l c h0 h1 (by rw [z2]; omega) (by rw [z3]; omega) (by omega)
  go_enter Tryz.func140, Tryz.ntmps140
  by_cases h0 : n = 0
  · subst h0
    go_wp2_with fail
    go_ret
    exact ⟨Below.refl _ _, rfl⟩
  · by_cases h1 : n = 1
    · subst h1
      have mk1 := mk 1 1 (by omega) (by omega) (by omega)
      go_wp2_with fail
      go_ret
      exact ⟨below_alloc (Below.refl _ _) _, .inr ⟨by omega, _, 1, rfl, Nat.le_refl _, blk_lt (blk_new _ _), lies_new w 1 1 (by omega)⟩⟩
    · have c0 : ¬ ((n : Int) ≤ 0) := by omega
      have c1 : ¬ ((n : Int) = 1) := by omega
      have c2 : wrap64 ((n : Int) + 4) = (n : Int) + 4 := by unfold wrap64; omega
      have mk2 := mk n (n + 4) (by omega) (by omega) (by omega)
      go_wp2_with fail
      go_ret
      exact ⟨below_alloc (Below.refl _ _) _, by omega, _, n + 4, rfl, Nat.le_refl _, blk_lt (blk_new _ _), lies_new w n (n + 4) (by omega)⟩
set_option maxHeartbeats 1000000 in
theorem norm_calls (l : List Nat) (h c : Nat) (w : World) (hw : Dg.Words l) (hL : Lies w h c l) (hc : l.length ≤ c) (hm : l.length ≤ 100000) :
    Calls Tryz.prog 137 #[.slice (some ⟨h, 0, none⟩) l.length c] w fun e w' => e = .returned (.slice (some ⟨h, 0, none⟩) (Dg.dg (Dg.val l)).length c) ∧ w' = w := by
  go_enter Tryz.func137, Tryz.ntmps137
  go_wp2_with fail
  go_loop [3] (fun v3 => ∃ i : Nat, v3 = .int .i64 i ∧ i ≤ l.length ∧ ∀ d ∈ l.drop i, d = 0) (fun v3 => match v3 with | .int _ i => i.toNat | _ => 0)
  case atStart => exact ⟨l.length, rfl, Nat.le_refl _, by simp⟩
  case round =>
    obtain ⟨i, rfl, hi, hz⟩ := hrel
    cases i with
    | zero =>
      go_wp2_with fail
      go_ret
      have e := Dg.dg_take hw 0 (Nat.zero_le _) hz (by simp)
      rw [← e]
      exact ⟨rfl, rfl⟩
    | succ i =>
      have w1 : wrap64 (((i + 1 : Nat) : Int) - 1) = (i : Int) := by unfold wrap64; omega
      have g1 : ((i + 1 : Nat) : Int) > 0 := by omega
      have g2 : (0 : Int) ≤ (i : Int) := by omega
      have g3 : (i : Int) < (l.length : Int) := by omega
      have cell := hL.cell i (by omega)
      unfold wv at cell
      by_cases hd : l[i]'(by omega) = 0
      · have hd' : ((l[i]'(by omega) : Nat) : Int) = 0 := by omega
        rw [hd'] at cell
        go_wp2_with fail
        refine ⟨⟨i, rfl, by omega, ?_⟩, by show ((i : Nat) : Int).toNat < (((i + 1 : Nat) : Nat) : Int).toNat; omega⟩
        intro d hdm
        rw [List.drop_eq_getElem_cons (by omega : i < l.length)] at hdm
        rcases List.mem_cons.1 hdm with h | h
        · rw [h]
          exact hd
        · exact hz d h
      · have hd' : ¬ ((l[i]'(by omega) : Nat) : Int) = 0 := by omega
        go_wp2_with fail
        go_ret
        have e := Dg.dg_take hw (i + 1) hi hz (by
          intro x hx
          rw [List.take_succ_eq_append_getElem (by omega : i < l.length), List.getLast?_append] at hx
          simp at hx
          rw [← hx]
          exact hd)
        have e2 : (Dg.dg (Dg.val l)).length = i + 1 := by
          rw [← e, List.length_take]
          omega
        rw [e2]
        exact ⟨rfl, rfl⟩
/-- What the bytes are so far: k words of n. -/
def part (n k : Nat) (v : Nat) : List Nat := Dg.dn k v ++ List.replicate (n - k) 0
theorem make_pos (n : Nat) (w : World) (h0 : 0 < n) (hn : n ≤ 100000) : Calls Tryz.prog 140 #[.slice none 0 0, .int .i64 n] w fun e w' => ∃ h c, e = .returned (.slice (some ⟨h, 0, none⟩) n c) ∧ Below w.heap.size w w' ∧ w.heap.size ≤ h ∧ h < w'.heap.size ∧ Lies w' h c (List.replicate n 0) := by
  refine (make_calls n w hn).mono ?_
  rintro e w' ⟨hb, ⟨h, _⟩ | ⟨_, h, c, he, h1, h2, h3⟩⟩
  · exact absurd h (by omega)
  · exact ⟨h, c, he, hb, h1, h2, h3⟩
end Go.Proofs.YtnbpoplomdocjaaGreatDoor.Giv

namespace Go.Proofs.YtnbpoplomdocjaaGreatDoor.Giv
open Go.RowKit Go.Proofs.YtnbpoplomdocjaaGreatDoorW.PrintWords Go.Proofs.YtnbpoplomdocjaaGreatDoorW.PrintLast Go.Proofs.YtnbpoplomdocjaaGreatDoor.Pk Go.Proofs.YtnbpoplomdocjaaGreatDoor.Ord Go.Proofs.YtnbpoplomdocjaaGreatDoor.QM
set_option linter.unusedVariables false
set_option linter.unusedSimpArgs false

theorem w_mask (a : Nat) (ha : a < 18446744073709551616) : bits .and .u64 (a : Int) 4294967295 = ((a % 4294967296 : Nat) : Int) := by
  have h := bits_and_u64_nat a 4294967295 ha (by omega)
  have e : a &&& 4294967295 = a % 4294967296 := Nat.and_two_pow_sub_one_eq_mod a 32
  rw [e] at h
  exact h
theorem w_div (a : Nat) : (a : Int) / 4294967296 = ((a / 4294967296 : Nat) : Int) := by omega
theorem w_wrap (a : Nat) (ha : a < 18446744073709551616) : IntKind.u64.wrap (a : Int) = (a : Int) := by rw [IntKind.wrap_u64]; omega
theorem w_mod (a : Nat) : IntKind.u64.wrap (a : Int) = ((a % 18446744073709551616 : Nat) : Int) := by rw [IntKind.wrap_u64]; omega
set_option maxHeartbeats 1000000 in
theorem mul64_calls (x y : Nat) (hx : x < 18446744073709551616) (hy : y < 18446744073709551616) (w : World) :
    Calls Tryz.prog 152 #[.int .u64 x, .int .u64 y] w fun e w' => e = .returned (.tuple #[.int .u64 ((x * y / 18446744073709551616 : Nat) : Int), .int .u64 ((x * y % 18446744073709551616 : Nat) : Int)]) ∧ w' = w := by
  obtain ⟨bd, bt, bw, hhi⟩ := Lib.mul64_hi x y hx hy
  have p1 := Lib.half_mul_le (a := x / 4294967296) (b := y / 4294967296) (by omega) (by omega)
  have p2 := Lib.half_mul_le (a := x / 4294967296) (b := y % 4294967296) (by omega) (by omega)
  have p3 := Lib.half_mul_le (a := x % 4294967296) (b := y / 4294967296) (by omega) (by omega)
  have q1 : x / 4294967296 * (y / 4294967296) < 18446744073709551616 := by omega
  have q2 : x / 4294967296 * (y % 4294967296) < 18446744073709551616 := by omega
  have q3 : x % 4294967296 * (y / 4294967296) < 18446744073709551616 := by omega
  have q4 : x / 4294967296 * (y / 4294967296) + (x / 4294967296 * (y % 4294967296) + x % 4294967296 * (y % 4294967296) / 4294967296) / 4294967296 < 18446744073709551616 := by omega
  have q5 : x / 4294967296 * (y / 4294967296) + (x / 4294967296 * (y % 4294967296) + x % 4294967296 * (y % 4294967296) / 4294967296) / 4294967296 + ((x / 4294967296 * (y % 4294967296) + x % 4294967296 * (y % 4294967296) / 4294967296) % 4294967296 + x % 4294967296 * (y / 4294967296)) / 4294967296 < 18446744073709551616 := by omega
  go_enter Tryz.func152, Tryz.ntmps152
  go_wp2
  simp only [w_mask x hx, w_mask y hy, w_div, ← Int.natCast_mul, ← Int.natCast_add, w_wrap _ bd, w_wrap _ q2, w_wrap _ bt, w_mask _ bt, w_wrap _ q3, w_wrap _ bw, w_wrap _ q1, w_wrap _ q4, w_wrap _ q5, w_mod (x * y)]
  rw [hhi]
  go_ret2
  exact ⟨rfl, rfl⟩
set_option maxHeartbeats 1000000 in
theorem mul_calls (x y : Nat) (hx : x < 18446744073709551616) (hy : y < 18446744073709551616) (w : World) :
    Calls Tryz.prog 149 #[.int .u64 x, .int .u64 y] w fun e w' => e = .returned (.tuple #[.int .u64 ((x * y / 18446744073709551616 : Nat) : Int), .int .u64 ((x * y % 18446744073709551616 : Nat) : Int)]) ∧ w' = w := by
  have c := mul64_calls x y hx hy w
  go_enter Tryz.func149, Tryz.ntmps149
  go_wp2_with (first | (go_at_call 152; (with_reducible refine c.mono ?_); rintro e w' ⟨rfl, hw⟩; rw [hw]))
  go_ret2
  exact ⟨rfl, rfl⟩
theorem add64_run (x y : Int) (hx : 0 ≤ x) (hy : 0 ≤ y) (w : World) : (callFunc 154 #[.int .u64 x, .int .u64 y, .int .u64 0]).run Tryz.prog w = .ok (.value (.tuple #[.int .u64 ((x + y) % 18446744073709551616), .int .u64 ((x + y) / 18446744073709551616)])) w := by
  rw [run_callFunc_extern Tryz.func154 (by kernel_rfl) (by kernel_rfl) (by kernel_rfl) (e := add64Entry) (by kernel_rfl), run_add64 x y 0 hx hy (by omega) (by omega)]
  simp only [Result.andThen, Int.add_zero]
set_option maxHeartbeats 1000000 in
theorem add_calls (x y : Int) (hx : 0 ≤ x) (hy : 0 ≤ y) (w : World) :
    Calls Tryz.prog 150 #[.int .u64 x, .int .u64 y, .int .u64 0] w fun e w' => e = .returned (.tuple #[.int .u64 ((x + y) % 18446744073709551616), .int .u64 ((x + y) / 18446744073709551616)]) ∧ w' = w := by
  have c := add64_run x y hx hy
  go_enter Tryz.func150, Tryz.ntmps150
  go_wp2_with (simp only [c])
  go_ret2
  exact ⟨rfl, rfl⟩
theorem muladd_arith (x y c : Nat) (hx : x < 18446744073709551616) (hy : y < 18446744073709551616) (hc : c < 18446744073709551616) :
    (x * y / 18446744073709551616) + (x * y % 18446744073709551616 + c) / 18446744073709551616 = (x * y + c) / 18446744073709551616 ∧ (x * y % 18446744073709551616 + c) % 18446744073709551616 = (x * y + c) % 18446744073709551616 ∧ (x * y + c) / 18446744073709551616 < 18446744073709551616 := by
  have h : x * y ≤ 18446744073709551615 * 18446744073709551615 := Nat.mul_le_mul (by omega) (by omega)
  omega
set_option maxHeartbeats 1000000 in
theorem mulAddWWW_calls (x y c : Nat) (hx : x < 18446744073709551616) (hy : y < 18446744073709551616) (hc : c < 18446744073709551616) (w : World) :
    Calls Tryz.prog 148 #[.int .u64 x, .int .u64 y, .int .u64 c] w fun e w' => e = .returned (.tuple #[.int .u64 (((x * y + c) / 18446744073709551616 : Nat) : Int), .int .u64 (((x * y + c) % 18446744073709551616 : Nat) : Int)]) ∧ w' = w := by
  have m := mul_calls x y hx hy w
  have a := add_calls ((x * y % 18446744073709551616 : Nat) : Int) c (by omega) (by omega) w
  obtain ⟨e1, e2, e3⟩ := muladd_arith x y c hx hy hc
  have f1 : IntKind.u64.wrap (((x * y / 18446744073709551616 : Nat) : Int) + (((x * y % 18446744073709551616 : Nat) : Int) + (c : Int)) / 18446744073709551616) = (((x * y + c) / 18446744073709551616 : Nat) : Int) := by
    rw [IntKind.wrap_u64]
    omega
  have f2 : (((x * y % 18446744073709551616 : Nat) : Int) + (c : Int)) % 18446744073709551616 = (((x * y + c) % 18446744073709551616 : Nat) : Int) := by omega
  obtain ⟨hi, ehi⟩ : ∃ n : Nat, n = x * y / 18446744073709551616 := ⟨_, rfl⟩
  obtain ⟨lo, elo⟩ : ∃ n : Nat, n = x * y % 18446744073709551616 := ⟨_, rfl⟩
  rw [← ehi, ← elo] at m f1
  rw [← elo] at a f2
  have F1 := Aside0.mk f1
  have F2 := Aside0.mk f2
  clear f1 f2 e1 e2 e3 ehi elo
  go_enter Tryz.func148, Tryz.ntmps148
  go_wp2_with (first | (go_at_call 149; (with_reducible refine m.mono ?_); rintro e w' ⟨rfl, hw⟩; rw [hw]) | (go_at_call 150; (with_reducible refine a.mono ?_); rintro e w' ⟨rfl, hw⟩; rw [hw]))
  go_ret2
  exact ⟨by rw [F1.out, F2.out]; rfl, rfl⟩
end Go.Proofs.YtnbpoplomdocjaaGreatDoor.Giv

namespace Go.Proofs.YtnbpoplomdocjaaGreatDoor.Giv
open Go.RowKit Go.Proofs.YtnbpoplomdocjaaGreatDoorW.PrintWords Go.Proofs.YtnbpoplomdocjaaGreatDoorW.PrintLast Go.Proofs.YtnbpoplomdocjaaGreatDoor.Pk Go.Proofs.YtnbpoplomdocjaaGreatDoor.Ord Go.Proofs.YtnbpoplomdocjaaGreatDoor.QM
set_option linter.unusedVariables false
set_option linter.unusedSimpArgs false

theorem Lies.grown {w w' : World} {h c g : Nat} {l : List Nat} (hl : Lies w h c l) (hg : w.grownBy w' (some g)) (hne : h ≠ g) : Lies w' h c l := by
  obtain ⟨arr, h1, h2⟩ := hl
  exact ⟨arr, (hg.block h (blk_lt h1) (fun e => hne (Option.some.inj e))).trans h1, h2⟩
theorem Lies.size {w : World} {h c : Nat} {l : List Nat} (hl : Lies w h c l) : h < w.heap.size := by
  obtain ⟨arr, h1, _⟩ := hl
  exact blk_lt h1
theorem Lies.frozen {w : World} {h c : Nat} {l : List Nat} (hl : Lies w h c l) (k : Nat) : w.frozen? ⟨h, k, none⟩ = false := by
  obtain ⟨arr, h1, _⟩ := hl
  exact blk_frozen h1 k
theorem Lies.le {w : World} {h c : Nat} {l : List Nat} (hl : Lies w h c l) : l.length ≤ c := by
  obtain ⟨arr, _, _, h3, _⟩ := hl
  exact h3
theorem Lies.some {w : World} {h c : Nat} {l : List Nat} (hl : Lies w h c l) (k : Nat) (hk : k < c) : ∃ u, w.cell? ⟨h, k, none⟩ = some u := by
  obtain ⟨arr, h1, h2, _, _⟩ := hl
  rw [blk_cell h1 k]
  exact ⟨_, Array.getElem?_eq_getElem (by omega)⟩
theorem grown_set {w w1 : World} {h : Nat} (hg : w.grownBy w1 (some h)) (k : Nat) (v : Value) : w.grownBy (w1.setCell ⟨h, k, none⟩ v) (some h) :=
  ⟨hg.os, hg.tape, hg.output, by simpa [World.setCell] using hg.size, fun i hi hne => (Below.heap_setCell _ _ _ _ (fun e => hne (congrArg some e))).trans (hg.block i hi hne)⟩
/-- One round. -/
theorem vww_step (low lx : List Nat) (y r c : Nat) (k : Nat) (hk : k < lx.length) (hl : low.length = k) (hv : Dg.val low + 18446744073709551616 ^ k * c = Dg.val (lx.take k) * y + r) :
    Dg.val (low ++ [(lx[k]'hk * y + c) % 18446744073709551616]) + 18446744073709551616 ^ (k + 1) * ((lx[k]'hk * y + c) / 18446744073709551616) = Dg.val (lx.take (k + 1)) * y + r := by
  rw [List.take_succ_eq_append_getElem hk, Dg.val_append, Dg.val_append, hl, List.length_take, Nat.min_eq_left (by omega)]
  simp only [Dg.val, Nat.mul_zero, Nat.add_zero]
  rw [Nat.pow_succ, Nat.add_assoc, Nat.mul_assoc (18446744073709551616 ^ k), ← Nat.mul_add, Nat.add_mul, Nat.mul_assoc]
  have e := Nat.mod_add_div (lx[k]'hk * y + c) 18446744073709551616
  rw [e, Nat.mul_add]
  omega
theorem vww_set (low lz : List Nat) (d : Nat) (k : Nat) (hk : k < lz.length) (hl : low.length = k) : (low ++ lz.drop k).set k d = (low ++ [d]) ++ lz.drop (k + 1) := by
  subst hl
  rw [List.set_append_right _ _ (Nat.le_refl _), Nat.sub_self, List.drop_eq_getElem_cons hk, List.set_cons_zero, List.append_assoc]
  rfl
set_option maxHeartbeats 4000000 in
theorem vww_calls (lz lx : List Nat) (h hx c cx z1 x1 y r : Nat) (w : World) (hlen : lz.length = lx.length) (hX : (hx = h ∧ lz = lx) ∨ (hx ≠ h ∧ Lies w hx cx lx)) (hZ : Lies w h c lz) (hw : Dg.Words lx) (hm : lx.length ≤ 100000)
    (hy : y < 18446744073709551616) (hr : r < 18446744073709551616) (hz1 : lx.length ≤ z1) (hx1 : lx.length ≤ x1) :
    Calls Tryz.prog 146 #[.slice (some ⟨h, 0, none⟩) lx.length z1, .slice (some ⟨hx, 0, none⟩) lx.length x1, .int .u64 y, .int .u64 r] w fun e w' =>
      ∃ (low : List Nat) (cc : Nat), e = .returned (.int .u64 cc) ∧ low.length = lx.length ∧ Dg.Words low ∧ cc < 18446744073709551616 ∧ Dg.val low + 18446744073709551616 ^ lx.length * cc = Dg.val lx * y + r ∧ Lies w' h c low ∧ w.grownBy w' (some h) := by
  have HW := Aside0.mk hw
  have HX := Aside0.mk hX
  have HZ := Aside0.mk hZ
  have HL := Aside0.mk hlen
  clear hw hX hZ hlen
  go_enter Tryz.func146, Tryz.ntmps146
  go_wp2_with fail
  go_loopw [8, 19] (fun v8 v19 wr => ∃ (k : Nat) (low : List Nat) (cc : Nat), v19 = .int .i64 k ∧ v8 = .int .u64 cc ∧ k ≤ lx.length ∧ low.length = k ∧ Dg.Words low ∧ cc < 18446744073709551616 ∧ Dg.val low + 18446744073709551616 ^ k * cc = Dg.val (lx.take k) * y + r ∧ Lies wr h c (low ++ lz.drop k) ∧ w.grownBy wr (some h)) (fun v8 v19 wr => lx.length - (intOf v19).toNat)
  case atStart =>
    refine ⟨0, [], r, rfl, rfl, Nat.zero_le _, rfl, by intro d hd; simp at hd, hr, by simp [Dg.val], ?_, World.grownBy.refl _ _⟩
    simpa using HZ.out
  case round =>
    obtain ⟨k, low, cc, rfl, rfl, hk, hlow, hwl, hcc, hval, hLw, hg⟩ := hrel
    by_cases hlt : k < lx.length
    · have hxk : lx[k]'hlt < 18446744073709551616 := HW.out _ (List.getElem_mem hlt)
      have hzk : k < lz.length := by rw [HL.out]; exact hlt
      have cellx : wr.cell? ⟨hx, k, none⟩ = some (.int .u64 ((lx[k]'hlt : Nat) : Int)) := by
        rcases HX.out with ⟨rfl, e⟩ | ⟨hne, hxl⟩
        · have q := hLw.cell k (by rw [List.length_append, List.length_drop]; omega)
          rw [q]
          unfold wv
          subst e
          rw [List.getElem_append_right (by omega)]
          simp [hlow]
        · exact (hxl.grown hg hne).cell k hlt
      obtain ⟨u, cellz⟩ := hLw.some k (by have := hLw.le; rw [List.length_append, List.length_drop] at this; omega)
      have hfrz := hLw.frozen k
      have c3 := fun (w : World) => mulAddWWW_calls (lx[k]'hlt) y cc hxk hy hcc w
      have lset := hLw.set k (by rw [List.length_append, List.length_drop]; omega) ((lx[k]'hlt * y + cc) % 18446744073709551616)
      rw [vww_set low lz _ k hzk hlow] at lset
      have vs := vww_step low lx y r cc k hlt hlow hval
      have gs := grown_set hg k (.int .u64 (((lx[k]'hlt * y + cc) % 18446744073709551616 : Nat) : Int))
      have ar := (muladd_arith (lx[k]'hlt) y cc hxk hy hcc).2.2
      have f3 : wrap64 ((k : Int) + 1) = ((k + 1 : Nat) : Int) := Pk.wr k (by omega)
      have f4 : (k : Int) < (lx.length : Int) := Int.ofNat_lt.2 hlt
      have LS := Aside0.mk lset
      have VS := Aside0.mk vs
      have GS := Aside0.mk gs
      have AR := Aside0.mk ar
      have HLO := Aside0.mk hlow
      have HWL := Aside0.mk hwl
      clear lset vs gs ar hlow hwl hval hLw hg hxk hzk hcc
      go_wp2_with (first | (go_at_call 148; (with_reducible refine (c3 _).mono ?_); rintro e w1 ⟨rfl, rfl⟩))
      have eq1 : (((lx[k]'hlt * y + cc) % 18446744073709551616 : Nat) : Int) = ((lx[k]'hlt : Nat) * (y : Int) + (cc : Int)) % 18446744073709551616 := by simp
      have eq2 : (((lx[k]'hlt * y + cc) / 18446744073709551616 : Nat) : Int) = ((lx[k]'hlt : Nat) * (y : Int) + (cc : Int)) / 18446744073709551616 := by simp
      rw [← eq1, ← eq2]
      refine ⟨⟨k + 1, low ++ [(lx[k]'hlt * y + cc) % 18446744073709551616], (lx[k]'hlt * y + cc) / 18446744073709551616, rfl, rfl, by omega, ?_, ?_, AR.out, VS.out, LS.out, GS.out⟩, ?_⟩
      · rw [List.length_append, HLO.out]
        rfl
      · intro d hd
        rcases List.mem_append.1 hd with h | h
        · exact HWL.out d h
        · rw [List.mem_singleton.1 h]
          exact Nat.mod_lt _ (by decide)
      · simp only [intOf]
        omega
    · have f4 : ¬ (k : Int) < (lx.length : Int) := by omega
      have ek : k = lx.length := by omega
      have ed : lz.drop k = [] := List.drop_eq_nil_of_le (by rw [HL.out]; omega)
      have et : lx.take k = lx := List.take_of_length_le (by omega)
      rw [ed, List.append_nil] at hLw
      rw [et, ek] at hval
      rw [ek] at hlow
      have V := Aside0.mk hval
      have L := Aside0.mk hLw
      have G := Aside0.mk hg
      have O := Aside0.mk hlow
      have Wd := Aside0.mk hwl
      have CC := Aside0.mk hcc
      clear hval hLw hg hlow hwl hcc ed et ek
      go_wp2_with fail
      go_ret
      exact ⟨low, cc, rfl, O.out, Wd.out, CC.out, V.out, L.out, G.out⟩
/-- The same by its other name. -/
theorem vwwo_calls (lz lx : List Nat) (h hx c cx z1 x1 y r : Nat) (w : World) (hlen : lz.length = lx.length) (hX : (hx = h ∧ lz = lx) ∨ (hx ≠ h ∧ Lies w hx cx lx)) (hZ : Lies w h c lz) (hw : Dg.Words lx) (hm : lx.length ≤ 100000)
    (hy : y < 18446744073709551616) (hr : r < 18446744073709551616) (hz1 : lx.length ≤ z1) (hx1 : lx.length ≤ x1) :
    Calls Tryz.prog 141 #[.slice (some ⟨h, 0, none⟩) lx.length z1, .slice (some ⟨hx, 0, none⟩) lx.length x1, .int .u64 y, .int .u64 r] w fun e w' =>
      ∃ (low : List Nat) (cc : Nat), e = .returned (.int .u64 cc) ∧ low.length = lx.length ∧ Dg.Words low ∧ cc < 18446744073709551616 ∧ Dg.val low + 18446744073709551616 ^ lx.length * cc = Dg.val lx * y + r ∧ Lies w' h c low ∧ w.grownBy w' (some h) := by
  have cl := vww_calls lz lx h hx c cx z1 x1 y r w hlen hX hZ hw hm hy hr hz1 hx1
  go_enter Tryz.func141, Tryz.ntmps141
  go_wp2_with (first | (go_at_call 146; (with_reducible refine cl.mono ?_); rintro e w1 ⟨low, cc, rfl, r1, r2, r3, r4, r5, r6⟩))
  go_ret
  exact ⟨low, cc, rfl, r1, r2, r3, r4, r5, r6⟩
end Go.Proofs.YtnbpoplomdocjaaGreatDoor.Giv

namespace Go.Proofs.YtnbpoplomdocjaaGreatDoor.Giv
open Go.RowKit Go.Proofs.YtnbpoplomdocjaaGreatDoorW.PrintWords Go.Proofs.YtnbpoplomdocjaaGreatDoorW.PrintLast Go.Proofs.YtnbpoplomdocjaaGreatDoor.Pk Go.Proofs.YtnbpoplomdocjaaGreatDoor.Ord Go.Proofs.YtnbpoplomdocjaaGreatDoor.QM
set_option linter.unusedVariables false
set_option linter.unusedSimpArgs false

theorem Lies.take {w : World} {h c : Nat} {l : List Nat} (hl : Lies w h c l) (n : Nat) : Lies w h c (l.take n) := by
  obtain ⟨arr, h1, h2, h3, h4⟩ := hl
  refine ⟨arr, h1, h2, by rw [List.length_take]; omega, ?_⟩
  rw [List.length_take, ← List.take_take, h4, List.map_take]
theorem Lies.push {w : World} {h c : Nat} {l : List Nat} (hl : Lies w h c l) (hc : l.length < c) (d : Nat) : Lies (w.setCell ⟨h, l.length, none⟩ (.int .u64 (d : Int))) h c (l ++ [d]) := by
  obtain ⟨arr, h1, h2, h3, h4⟩ := hl
  refine ⟨_, blk_put h1 l.length _ rfl, by rw [Array.size_setIfInBounds]; exact h2, by rw [List.length_append]; exact hc, ?_⟩
  rw [Array.toList_setIfInBounds, List.length_append, List.map_append, ← h4]
  have hlen : l.length < (arr.toList.set l.length (.int .u64 (d : Int))).length := by rw [List.length_set]; have e : arr.toList.length = arr.size := Array.length_toList; omega
  show List.take (l.length + 1) _ = _
  rw [List.take_succ_eq_append_getElem hlen, List.getElem_set_self]
  congr 1
  rw [List.take_set_of_le (Nat.le_refl _)]
theorem Lies.push' {w : World} {h c m : Nat} {l : List Nat} (hl : Lies w h c l) (e : l.length = m) (hc : m < c) (d : Nat) : Lies (w.setCell ⟨h, m, none⟩ (.int .u64 (d : Int))) h c (l ++ [d]) := by
  subst e
  exact hl.push hc d
theorem norm_at (m : Nat) (l : List Nat) (h c : Nat) (w : World) (e : l.length = m) (hw : Dg.Words l) (hL : Lies w h c l) (hm : l.length ≤ 100000) :
    Calls Tryz.prog 137 #[.slice (some ⟨h, 0, none⟩) m c] w fun e w' => e = .returned (.slice (some ⟨h, 0, none⟩) (Dg.dg (Dg.val l)).length c) ∧ w' = w := by
  subst e
  exact norm_calls l h c w hw hL hL.le hm
theorem words_snoc {low : List Nat} {cc : Nat} (hw : Dg.Words low) (hc : cc < 18446744073709551616) : Dg.Words (low ++ [cc]) := by
  intro d hd
  rcases List.mem_append.1 hd with h | h
  · exact hw d h
  · rw [List.mem_singleton.1 h]
    exact hc
/-- The number n as a row: nil, or the head of a block from B on. -/
def NatIn (w : World) (B : Nat) (v : Value) (n : Nat) : Prop := (n = 0 ∧ v = .slice none 0 0) ∨ (n ≠ 0 ∧ ∃ h c, v = .slice (some ⟨h, 0, none⟩) (Dg.dg n).length c ∧ B ≤ h ∧ Lies w h c (Dg.dg n))
theorem NatIn.below {w w' : World} {B : Nat} {v : Value} {n : Nat} (h : NatIn w B v n) (hb : Below w.heap.size w w') : NatIn w' B v n := by
  rcases h with h | ⟨h0, h, c, e, hB, hl⟩
  · exact .inl h
  · exact .inr ⟨h0, h, c, e, hB, hl.below hb⟩
theorem dg_ne {n : Nat} (h : n ≠ 0) : 0 < (Dg.dg n).length := by
  rcases Nat.eq_zero_or_pos (Dg.dg n).length with h0 | h0
  · exact absurd (Dg.dg_nil (List.length_eq_zero_iff.1 h0)) h
  · exact h0
theorem dg_word {r : Nat} (h0 : r ≠ 0) (h : r < 18446744073709551616) : Dg.dg r = [r] := by
  rw [Dg.dg_pos h0, Nat.mod_eq_of_lt h, Nat.div_eq_of_lt h, Dg.dg_zero]
theorem below_row {B : Nat} {w w' : World} {h : Nat} (hg : w.grownBy w' (some h)) (hB : B ≤ h) (hs : B ≤ w.heap.size) : Below B w w' :=
  ⟨hg.os, hg.tape, hg.output, hg.size, fun i hi => hg.block i (by omega) (fun e => by injection e with e; omega)⟩
theorem make_room (h k c n : Nat) (w : World) (hk : n ≤ c) (v : Int) (hv : v = (n : Int)) :
    Calls Tryz.prog 140 #[.slice (some ⟨h, 0, none⟩) k c, .int .i64 v] w fun e w' => e = .returned (.slice (some ⟨h, 0, none⟩) n c) ∧ w' = w := by
  subst hv
  have c0 : (n : Int) ≤ (c : Int) := by omega
  go_enter Tryz.func140, Tryz.ntmps140
  go_wp2_with fail
  go_ret
  exact ⟨rfl, rfl⟩
set_option maxRecDepth 100000 in
set_option maxHeartbeats 1000000 in
theorem make_more (h k c n : Nat) (w : World) (hk : c < n) (h2 : 2 ≤ n) (hn : n ≤ 100000) (v : Int) (hv : v = (n : Int)) :
    Calls Tryz.prog 140 #[.slice (some ⟨h, 0, none⟩) k c, .int .i64 v] w fun e w' => ∃ h' c', e = .returned (.slice (some ⟨h', 0, none⟩) n c') ∧ Below w.heap.size w w' ∧ w.heap.size ≤ h' ∧ h' < w'.heap.size ∧ Lies w' h' c' (List.replicate n 0) := by
  obtain ⟨i, hi, hs⟩ := Option.map_eq_some_iff.1 (show (Tryz.prog.info? 117).map (fun i => (i.zero, i.size, i.bytes)) = some (some (.int .u64 0), 1, 8) by kernel_rfl)
  have z1 : i.zero = some (.int .u64 0) := congrArg (fun p => p.1) hs
  have z2 : i.size = 1 := congrArg (fun p => p.2.1) hs
  have z3 : i.bytes = 8 := congrArg (fun p => p.2.2) hs
  subst hv
  have c3 : ¬ ((n : Int) ≤ (c : Int)) := by omega
  have c1 : ¬ ((n : Int) = 1) := by omega
  have c2 : wrap64 ((n : Int) + 4) = (n : Int) + 4 := by unfold wrap64; omega
  have mk2 := run_makeSlice (P := Tryz.prog) w 89 117 i (.int .u64 0) Tryz.underlying89 hi z1 .i64 .i64 n ((n : Int) + 4) (by omega) (by omega) (by rw [z2]; omega) (by rw [z3]; omega) (by omega)
  go_enter Tryz.func140, Tryz.ntmps140
  go_wp2_with fail
  go_ret
  exact ⟨_, n + 4, rfl, below_alloc (Below.refl _ _) _, Nat.le_refl _, blk_lt (blk_new _ _), lies_new w n (n + 4) (by omega)⟩
theorem make_one (w : World) : Calls Tryz.prog 140 #[.slice none 0 0, .int .i64 1] w fun e w' => ∃ h c, e = .returned (.slice (some ⟨h, 0, none⟩) 1 c) ∧ Below w.heap.size w w' ∧ w.heap.size ≤ h ∧ h < w'.heap.size ∧ Lies w' h c [0] := make_pos 1 w (by decide) (by decide)
/-- A word alone. -/
theorem setWord_calls (r : Nat) (w : World) (hr : r < 18446744073709551616) :
    Calls Tryz.prog 139 #[.slice none 0 0, .int .u64 r] w fun e w' => ∃ v, e = .returned v ∧ NatIn w' w.heap.size v r ∧ Below w.heap.size w w' := by
  by_cases h0 : r = 0
  · subst h0
    go_enter Tryz.func139, Tryz.ntmps139
    go_wp2_with fail
    go_ret
    exact ⟨_, rfl, .inl ⟨rfl, rfl⟩, Below.refl _ _⟩
  · have m := fun w => make_one w
    have c0 : ¬ (r : Int) = 0 := by omega
    have D := Aside0.mk (dg_word h0 hr)
    have H0 := Aside0.mk h0
    clear h0
    go_enter Tryz.func139, Tryz.ntmps139
    go_wp2_with (first | (go_at_call 140; (with_reducible refine (m _).mono ?_); rintro e w1 ⟨h, c, rfl, hb, hh, hlt, hL⟩; have cz := hL.cell 0 (by decide); have fz := hL.frozen 0; have LS := Aside0.mk (hL.set 0 (by decide) r); have HB := Aside0.mk hb; clear hb hL))
    go_ret
    refine ⟨_, rfl, .inr ⟨H0.out, h, c, ?_, hh, ?_⟩, ?_⟩
    · rw [D.out]
      rfl
    · rw [D.out]
      exact LS.out
    · exact HB.out.setCell hh _
/-- What is left of m + 1 words is the number. -/
theorem mulAdd_end {w : World} {B h c n y r cc : Nat} {low : List Nat} (hl : low.length = (Dg.dg n).length) (hw : Dg.Words low) (hcc : cc < 18446744073709551616) (hv : Dg.val low + 18446744073709551616 ^ (Dg.dg n).length * cc = Dg.val (Dg.dg n) * y + r)
    (hn : n ≠ 0) (hy : 0 < y) (hB : B ≤ h) (hL : Lies w h c (low ++ [cc])) :
    Dg.val (low ++ [cc]) = n * y + r ∧ NatIn w B (.slice (some ⟨h, 0, none⟩) (Dg.dg (Dg.val (low ++ [cc]))).length c) (n * y + r) := by
  have e : Dg.val (low ++ [cc]) = n * y + r := by
    rw [Dg.val_append, hl]
    simp only [Dg.val, Nat.mul_zero, Nat.add_zero]
    rw [hv, Dg.val_dg]
  have ww : Dg.Words (low ++ [cc]) := words_snoc hw hcc
  have p := Dg.dg_prefix _ _ rfl ww
  rw [e] at p ⊢
  refine ⟨rfl, .inr ⟨?_, h, c, rfl, hB, ?_⟩⟩
  · have : 0 < n * y := Nat.mul_pos (Nat.pos_of_ne_zero hn) hy
    omega
  · rw [p]
    exact hL.take _
set_option maxHeartbeats 4000000 in
theorem mulAddWW_calls (n y r B : Nat) (v : Value) (w : World) (hZ : NatIn w B v n) (hB : B ≤ w.heap.size) (hy0 : 0 < y) (hy : y < 18446744073709551616) (hr : r < 18446744073709551616) (hl : (Dg.dg n).length ≤ 50000) :
    Calls Tryz.prog 134 #[v, v, .int .u64 y, .int .u64 r] w fun e w' => ∃ v', e = .returned v' ∧ NatIn w' B v' (n * y + r) ∧ Below B w w' := by
  have cy : ¬ (y : Int) = 0 := by omega
  rcases hZ with ⟨rfl, rfl⟩ | ⟨h0, h, c, rfl, hBh, hL⟩
  · have s := fun w => setWord_calls r w hr
    go_enter Tryz.func134, Tryz.ntmps134
    go_wp2_with (first | (go_at_call 139; (with_reducible refine (s _).mono ?_); rintro e w1 ⟨v1, rfl, hn, hb⟩; have HN := Aside0.mk hn; have HB := Aside0.mk hb; clear hn hb))
    go_ret
    refine ⟨_, rfl, ?_, HB.out.mono hB⟩
    rw [Nat.zero_mul, Nat.zero_add]
    rcases HN.out with q | ⟨q0, h, c, e, q1, q2⟩
    · exact .inl q
    · exact .inr ⟨q0, h, c, e, by omega, q2⟩
  · have lp := dg_ne h0
    obtain ⟨m, em⟩ : ∃ m, m = (Dg.dg n).length := ⟨_, rfl⟩
    have w1 : wrap64 ((m : Int) + 1) = ((m + 1 : Nat) : Int) := Pk.wr m (by omega)
    have c0 : ((m : Int) == 0) = false := beq_eq_false_iff_ne.2 (by omega)
    have cy : ((y : Int) == 0) = false := beq_eq_false_iff_ne.2 (by omega)
    have c4 : (0 : Int) ≤ (m : Int) := by omega
    by_cases room : m + 1 ≤ c
    · have mk := fun (v : Int) (hv : v = ((m + 1 : Nat) : Int)) w => make_room h m c (m + 1) w room v hv
      have vw := fun w (hL : Lies w h c (Dg.dg n)) => vwwo_calls (Dg.dg n) (Dg.dg n) h h c c c c y r w rfl (.inl ⟨rfl, rfl⟩) hL (Dg.dg_words n) (by omega) hy hr (by omega) (by omega)

      rw [← em] at vw ⊢
      have c5 : (m : Int) ≤ (c : Int) := by omega
      have c6 : (m : Int) < ((m + 1 : Nat) : Int) := by omega
      have EM := Aside0.mk em
      have HL := Aside0.mk hL
      have HM := Aside0.mk (show m + 1 ≤ 100000 by omega)
      have HH := Aside0.mk h0
      clear em hL lp h0
      go_enter Tryz.func134, Tryz.ntmps134
      go_wp2_with (first | (go_at_call 140; (with_reducible refine (mk _ (by omega) _).mono ?_); rintro e w1 ⟨rfl, rfl⟩) | (go_at_call 141; (with_reducible refine (vw _ HL.out).mono ?_); rintro e w2 ⟨low, cc, rfl, r1, r2, r3, r4, r5, r6⟩; obtain ⟨u, cz⟩ := r5.some m room; have fz := r5.frozen m; have R1 := Aside0.mk r1; have R4 := Aside0.mk r4; have R2 := Aside0.mk r2; have R5 := Aside0.mk (r5.push' r1 room cc); have R6 := Aside0.mk (grown_set r6 m (.int .u64 cc)); have nm := norm_at (m + 1) (low ++ [cc]) h c _ (by rw [List.length_append, r1]; rfl) (words_snoc r2 r3) R5.out (by rw [List.length_append, r1]; exact HM.out); clear r1 r2 r4 r5 r6) | (go_at_call 137; (with_reducible refine nm.mono ?_); rintro e w3 ⟨rfl, rfl⟩))
      go_ret
      obtain ⟨e1, e2⟩ := mulAdd_end (R1.out.trans EM.out) R2.out r3 (by rw [← EM.out]; exact R4.out) HH.out hy0 hBh R5.out
      exact ⟨_, rfl, e2, below_row R6.out hBh hB⟩
    · have mk := fun (v : Int) (hv : v = ((m + 1 : Nat) : Int)) w => make_more h m c (m + 1) w (by omega) (by omega) (by omega) v hv
      have hLn := hL
      have HL := Aside0.mk hL
      have EM := Aside0.mk em
      have HM := Aside0.mk (show m + 1 ≤ 100000 by omega)
      have HH := Aside0.mk h0
      have c6 : (m : Int) < ((m + 1 : Nat) : Int) := by omega
      have vw := fun h' c' w (hX : h ≠ h' ∧ Lies w h c (Dg.dg n)) (hL : Lies w h' c' (List.replicate m 0)) => vwwo_calls (List.replicate m 0) (Dg.dg n) h' h c' c c' c y r w (by rw [List.length_replicate]; exact em) (.inr hX) hL (Dg.dg_words n) (by omega) hy hr (by have := hL.le; rw [List.length_replicate] at this; omega) (by have := hLn.le; omega)
      rw [← em] at vw ⊢
      clear em hL lp h0 hLn
      go_enter Tryz.func134, Tryz.ntmps134
      go_wp2_with (first | (go_at_call 140; (with_reducible refine (mk _ (by omega) _).mono ?_); rintro e w1 ⟨h', c', rfl, hb, hh, hlt, hL⟩; have hle := hL.le; rw [List.length_replicate] at hle; have c5 : (m : Int) ≤ (c' : Int) := (by omega); have HLm := Aside0.mk (show Lies w1 h' c' (List.replicate m 0) from by (have q := hL.take m; rw [List.take_replicate, Nat.min_eq_left (Nat.le_succ m)] at q; exact q)); have HB := Aside0.mk hb; have HN := Aside0.mk (show h ≠ h' ∧ Lies w1 h c (Dg.dg n) from ⟨Nat.ne_of_lt (Nat.lt_of_lt_of_le HL.out.size hh), HL.out.below hb⟩); clear hL hb) | (go_at_call 141; (with_reducible refine (vw _ _ _ HN.out HLm.out).mono ?_); rintro e w2 ⟨low, cc, rfl, r1, r2, r3, r4, r5, r6⟩; obtain ⟨u, cz⟩ := r5.some m hle; have fz := r5.frozen m; have R1 := Aside0.mk r1; have R4 := Aside0.mk r4; have R2 := Aside0.mk r2; have R5 := Aside0.mk (r5.push' r1 hle cc); have R6 := Aside0.mk (grown_set r6 m (.int .u64 cc)); have nm := norm_at (m + 1) (low ++ [cc]) h' c' _ (by rw [List.length_append, r1]; rfl) (words_snoc r2 r3) R5.out (by rw [List.length_append, r1]; exact HM.out); clear r1 r2 r4 r5 r6) | (go_at_call 137; (with_reducible refine nm.mono ?_); rintro e w3 ⟨rfl, rfl⟩))
      go_ret
      obtain ⟨e1, e2⟩ := mulAdd_end (B := B) (R1.out.trans EM.out) R2.out r3 (by rw [← EM.out]; exact R4.out) HH.out hy0 (by omega) R5.out
      exact ⟨_, rfl, e2, (HB.out.mono hB).trans (below_row R6.out (by omega) (Nat.le_trans hB HB.out.size))⟩
end Go.Proofs.YtnbpoplomdocjaaGreatDoor.Giv
