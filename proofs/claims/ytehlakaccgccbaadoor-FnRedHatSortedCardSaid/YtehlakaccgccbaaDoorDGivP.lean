/- Contracts by hand: Red Hat versions, parsed and compared, by the printed parse. -/
import Derived.Test.YtehlakaccgccbaaDoorGivS
import Derived.Test.YtehlakaccgccbaaDoorPmk
import Derived.Test.YtehlakaccgccbaaDoorRed
import Derived.Test.YtehlakaccgccbaaDoorQDx
import Derived.Test.YtehlakaccgccbaaDoorDPcut
namespace Go.Proofs.YtehlakaccgccbaaDoor.QD
open Go.RowKit Go.Proofs.YtehlakaccgccbaaDoorW.PrintWords Go.Proofs.YtehlakaccgccbaaDoorW.PrintLast Go.Proofs.YtehlakaccgccbaaDoor.Pk Go.Proofs.YtehlakaccgccbaaDoor.Giv Go.Proofs.YtehlakaccgccbaaDoor.Ord
set_option linter.unusedVariables false
set_option linter.unusedSimpArgs false

theorem dw_nil {p : UInt8 → Bool} : ∀ {l : List UInt8}, l.dropWhile p = [] ↔ ∀ x ∈ l, p x = true
  | [] => by simp
  | x :: l => by
    by_cases h : p x = true
    · rw [List.dropWhile_cons_of_pos h, dw_nil]
      simp [h]
    · rw [List.dropWhile_cons_of_neg h]
      simp [h]
theorem place_tw (c : UInt8) : ∀ l : List UInt8, l.findIdx (fun x => x == c) = (l.takeWhile (Red.notC c)).length
  | [] => rfl
  | x :: l => by
    rw [List.findIdx_cons]
    by_cases h : x = c
    · simp [h, Red.notC]
    · have hb : (x == c) = false := by simpa using h
      rw [hb, List.takeWhile_cons_of_pos (by simp [Red.notC, hb]), List.length_cons, place_tw c l]
      simp
/-- A text cut at the first c. -/
theorem cut_ev (c : UInt8) (l : List UInt8) (hl : l.length < 4611686018427387904) : Ev (fun k => semantic_zzCut.f k (bs l) ⟨#[c]⟩) (if l.any (fun x => x == c) then (bs (l.takeWhile (Red.notC c)), bs (l.dropWhile (Red.notC c)).tail, true) else (bs l, ⟨#[]⟩, false)) := by
  by_cases h : l.any (fun x => x == c) = true
  · rw [if_pos h]
    have e : placeOf (fun x => x == c) (bs l).toList = ((l.takeWhile (Red.notC c)).length : Int) := by
      rw [bs_toList]
      unfold placeOf
      rw [if_pos h, place_tw]
    have hlt : (l.takeWhile (Red.notC c)).length < (bs l).size := by
      rw [bs_size, ← place_tw, List.findIdx_lt_length]
      simpa using h
    have z := zzCut_yes (bs l) c (by rw [bs_size]; exact hl) _ hlt e
    rw [bs_extHead, bs_extAll, take_tw, ← List.drop_drop, drop_tw, List.drop_one] at z
    exact z
  · rw [if_neg h]
    refine zzCut_no (bs l) c (by rw [bs_size]; exact hl) ?_
    rw [bs_toList]
    unfold placeOf
    rw [if_neg h]
theorem parse_tail (e l : List UInt8) (hl : l.length < 4611686018427387904) : Ev (fun k => semantic_ParseRedHatVersion.j1 k (bs e) (bs l)) (bs (Red.tail e l).1, bs (Red.tail e l).2.1, bs (Red.tail e l).2.2) := by
  refine Ev.step (fun k => by rw [semantic_ParseRedHatVersion.j1]) ?_
  refine (cut_ev 45 l hl).bind ?_
  rw [bs_toList]
  by_cases h : l.any (fun x => x == 45) = true
  · rw [if_pos h]
    have hd : l.dropWhile (Red.notC 45) = 45 :: (l.dropWhile (Red.notC 45)).tail := by
      cases hc : l.dropWhile (Red.notC 45) with
      | nil =>
        rw [dw_nil] at hc
        rw [List.any_eq_true] at h
        obtain ⟨x, hx, hx'⟩ := h
        have := hc x hx
        unfold Red.notC at this
        rw [hx'] at this
        simp at this
      | cons x r =>
        have := List.head_dropWhile_not (p := Red.notC 45) (l := l) (by rw [hc]; simp)
        simp only [hc, List.head_cons] at this
        unfold Red.notC at this
        have hx : x = 45 := by simpa using this
        rw [hx]
        rfl
    have t := Red.dw_le (Red.notC 45) l
    refine ev_pos rfl (ev_pos (by rw [bs_size, List.length_tail]; omega) ?_)
    have er : (⟨#[45]⟩ : ByteArray) ++ bs (l.dropWhile (Red.notC 45)).tail = bs (l.dropWhile (Red.notC 45)) := by
      show bs [45] ++ _ = _
      rw [bs_append]
      congr 1
      exact hd.symm
    rw [er]
    unfold Red.tail
    by_cases he : e = []
    · refine ev_pos he ?_
      rw [if_pos he]
      exact Ev.now _
    · refine ev_neg he ?_
      rw [if_neg he]
      exact Ev.now _
  · rw [if_neg h]
    refine ev_neg (by simp) ?_
    have hall : ∀ x ∈ l, Red.notC 45 x = true := by
      intro x hx
      have h' : l.any (fun x => x == 45) = false := Bool.eq_false_iff.2 h
      rw [List.any_eq_false] at h'
      unfold Red.notC
      simpa using h' x hx
    have t1 : l.takeWhile (Red.notC 45) = l := by
      conv => rhs; rw [← List.takeWhile_append_dropWhile (p := Red.notC 45) (l := l), dw_nil.2 hall, List.append_nil]
    have t2 : l.dropWhile (Red.notC 45) = [] := dw_nil.2 hall
    unfold Red.tail
    rw [t1, t2]
    by_cases he : e = []
    · refine ev_pos he ?_
      rw [if_pos he]
      exact Ev.now _
    · refine ev_neg he ?_
      rw [if_neg he]
      exact Ev.now _
theorem parse_ev (l : List UInt8) (hl : l.length ≤ 140737488351232) : Ev (fun k => semantic_ParseRedHatVersion.f k (bs l)) (bs (Red.parse l).1, bs (Red.parse l).2.1, bs (Red.parse l).2.2) := by
  unfold semantic_ParseRedHatVersion.f
  refine (cut_ev 58 l (by omega)).bind ?_
  have a := Red.tw_le (Red.notC 58) l
  have b := Red.dw_le (Red.notC 58) l
  unfold Red.parse
  by_cases h : l.any (fun x => x == 58) = true
  · rw [if_pos h, h, Bool.true_and]
    refine ev_pos rfl ?_
    unfold Giv.semantic_isOnlyDigits.f onlyDigits
    rw [if_pos (by rw [bs_size]; omega), bs_toList]
    refine ev_some ?_
    refine Ev.step (fun k => by rw [semantic_ParseRedHatVersion.j0]) ?_
    by_cases hd : (l.takeWhile (Red.notC 58)).all Rpm.dig = true
    · rw [if_pos hd]
      refine ev_neg (by simp [hd]) ?_
      exact parse_tail _ _ (by rw [List.length_tail]; omega)
    · rw [if_neg hd]
      refine ev_pos (by simpa using hd) ?_
      exact parse_tail [] l (by omega)
  · have h' : l.any (fun x => x == 58) = false := Bool.eq_false_iff.2 h
    rw [if_neg h, h', Bool.false_and, if_neg (by simp)]
    refine ev_neg (by simp) ?_
    refine Ev.step (fun k => by rw [semantic_ParseRedHatVersion.j0]) ?_
    refine ev_pos rfl ?_
    exact parse_tail [] l (by omega)
theorem parse_calls (l : List UInt8) (w : World) (hl : l.length ≤ 140737488351232) :
    Calls Tryd.prog 10 #[.string (bs l)] w fun e w' => e = .returned (.agg #[.string (bs (Red.parse l).1), .string (bs (Red.parse l).2.1), .string (bs (Red.parse l).2.2)]) ∧ Below w.heap.size w w' := by
  obtain ⟨K, h⟩ := parse_ev l hl
  exact semantic_ParseRedHatVersion.calls K (bs l) _ _ _ w (h K (Nat.le_refl _))
end Go.Proofs.YtehlakaccgccbaaDoor.QD
namespace Go.Proofs.YtehlakaccgccbaaDoor.Giv
open Go.RowKit Go.Proofs.YtehlakaccgccbaaDoorW.PrintWords Go.Proofs.YtehlakaccgccbaaDoorW.PrintLast Go.Proofs.YtehlakaccgccbaaDoor.Pk Go.Proofs.YtehlakaccgccbaaDoor.Ord Go.Proofs.YtehlakaccgccbaaDoor.QD
theorem pc (a b : List UInt8) (w : World) (ha : a.length ≤ 2147483647) (hb : b.length ≤ 2147483647) :
    Calls Tryd.prog 25 #[.string (bs a), .string (bs b)] w fun e w' => e = .returned (.int .i64 (Rpm.parts a b)) ∧ Below w.heap.size w w' := by
  have := parts_calls (bs a) (bs b) w (by rw [bs_size]; exact ha) (by rw [bs_size]; exact hb)
  rwa [bs_toList, bs_toList] at this
def agg (v : Red.Ver) : Value := .agg #[.string (bs v.1), .string (bs v.2.1), .string (bs v.2.2)]
def small (v : Red.Ver) : Prop := v.1.length ≤ 2147483647 ∧ v.2.1.length ≤ 2147483647 ∧ v.2.2.length ≤ 2147483647
theorem ver_calls (x y : Red.Ver) (w : World) (hx : small x) (hy : small y) :
    Calls Tryd.prog 16 #[agg x, agg y] w fun e w' => e = .returned (.int .i64 (Red.vc x y)) ∧ Below w.heap.size w w' := by
  refine semantic_RedHatVersion_compare.calls _ _ _ _ _ _ _ w ?_
  unfold semantic_RedHatVersion_compare.f Giv.semantic_compareRedHatComponents.f
  simp only [bs_size, bs_toList]
  obtain ⟨hx1, hx2, hx3⟩ := hx
  obtain ⟨hy1, hy2, hy3⟩ := hy
  rw [if_pos hx1, if_pos hx2, if_pos hx3, if_pos hy1, if_pos hy2, if_pos hy3]
  unfold Red.vc
  simp only [Option.bind_some]
  by_cases z1 : Rpm.parts x.1 y.1 = 0
  · rw [if_pos z1, if_pos z1]
    by_cases z2 : Rpm.parts x.2.1 y.2.1 = 0
    · rw [if_pos z2, if_pos z2]
      by_cases z3 : Rpm.parts x.2.2 y.2.2 = 0
      · rw [if_pos z3, z3]
      · rw [if_neg z3]
    · rw [if_neg z2, if_neg z2]
  · rw [if_neg z1, if_neg z1]
theorem run_assert_same {P : Program} {t : TypeId} {fs : Array Field} (h : P.underlying t = some (.struct fs)) (xT : TypeId) (v : Value) (w : World) : (Instr.typeAssert (.iface t v) xT t true).run P w = .ok (.tuple #[v, .bool true]) w := by
  simp [Instr.typeAssert, run_underlying h, go_sem, Result.andThen]
theorem run_nil_eql {P : Program} {ti : TypeId} {ms : Array (String × TypeId)} (hi : P.underlying ti = some (.interface ms)) (w : World) : (binOp .eql ti .nilIface .nilIface).run P w = .ok (.bool true) w := by
  have h : ∀ d : Nat, (Op.equalIn (d + 1) ti .nilIface .nilIface).run P w = .ok true w := fun d => by simp [Op.equalIn, run_underlying hi]
  simp only [binOp]
  simp [show Op.equal ti .nilIface .nilIface = Op.equalIn (9999 + 1) ti .nilIface .nilIface from rfl, h]
set_option maxHeartbeats 1000000 in
theorem Compare_calls (x1 x2 x3 y1 y2 y3 : ByteArray) (r : Int) (w : World) (c : ∀ w, Calls Tryd.prog 16 #[.agg #[.string x1, .string x2, .string x3], .agg #[.string y1, .string y2, .string y3]] w fun e w' => e = .returned (.int .i64 r) ∧ Below w.heap.size w w') :
    Calls Tryd.prog 11 #[.agg #[.string x1, .string x2, .string x3], .iface 33 (.agg #[.string y1, .string y2, .string y3])] w fun e w' => e = .returned (.tuple #[.int .i64 r, .nilIface]) ∧ Below w.heap.size w w' := by
  have hta := fun v w => run_assert_same Tryd.underlying33 43 v w
  go_enter Tryd.func11, Tryd.ntmps11
  go_wp2_with (first | (go_at_call 16; refine (c _).mono ?_; rintro e w1 ⟨rfl, hb1⟩))
  go_ret2
  have h1 := (Below.refl w.heap.size w).alloc (Nat.le_refl _) (Obj.cells #[Value.string x1, Value.string x2, Value.string x3] 33)
  have h2 := h1.alloc h1.size (Obj.cells #[Value.string y1, Value.string y2, Value.string y3] 33)
  exact ⟨rfl, h2.trans (hb1.mono h2.size)⟩
theorem below_drewN {B : Nat} {a w : World} (h : Below B a w) (n : Nat) : Below B a (w.drewN n) := ⟨h.os, h.tape, h.output, h.size, h.block⟩
set_option maxHeartbeats 1000000 in
theorem impl_calls0 (s t x1 x2 x3 y1 y2 y3 : ByteArray) (r : Int) (w : World)
    (c1 : ∀ w, Calls Tryd.prog 10 #[.string s] w fun e w' => e = .returned (.agg #[.string x1, .string x2, .string x3]) ∧ Below w.heap.size w w')
    (c2 : ∀ w, Calls Tryd.prog 10 #[.string t] w fun e w' => e = .returned (.agg #[.string y1, .string y2, .string y3]) ∧ Below w.heap.size w w')
    (c3 : ∀ w, Calls Tryd.prog 11 #[.agg #[.string x1, .string x2, .string x3], .iface 33 (.agg #[.string y1, .string y2, .string y3])] w fun e w' => e = .returned (.tuple #[.int .i64 r, .nilIface]) ∧ Below w.heap.size w w') :
    Calls Tryd.prog 8 #[.string s, .string t] w fun e w' => e = .returned (.tuple #[.int .i64 r, .bool true]) ∧ Below w.heap.size w w' := by
  have hmi : ∀ x w, (Instr.makeInterface 33 x).run Tryd.prog w = .ok (.iface 33 x) w := fun x w => run_makeInterface w 33 x (by kernel_rfl)
  have hnn := fun w => run_nil_eql Tryd.underlying30 w
  go_enter Tryd.func8, Tryd.ntmps8
  go_wp2_with (first | (go_at_call 10; (with_reducible refine (c1 _).mono ?_); rintro e w1 ⟨rfl, hb1⟩) | (go_at_call 10; (with_reducible refine (c2 _).mono ?_); rintro e w2 ⟨rfl, hb2⟩) | (go_at_call 11; (with_reducible refine (c3 _).mono ?_); rintro e w3 ⟨rfl, hb3⟩))
  go_quiet (fail)
  go_wp2_with fail
  go_ret2
  exact ⟨rfl, below_drewN ((hb1.trans (hb2.mono hb1.size)).trans (hb3.mono (Nat.le_trans hb1.size hb2.size))) _⟩
theorem impl_calls (a b : List UInt8) (w : World) (ha : a.length ≤ 1000000) (hb : b.length ≤ 1000000) :
    Calls Tryd.prog 8 #[.string (bs a), .string (bs b)] w fun e w' => e = .returned (.tuple #[.int .i64 (Red.cmp a b), .bool true]) ∧ Below w.heap.size w w' := by
  have la := Red.parse_len a
  have lb := Red.parse_len b
  exact impl_calls0 _ _ _ _ _ _ _ _ _ w (fun w => parse_calls a w (by omega)) (fun w => parse_calls b w (by omega)) (fun w => Compare_calls _ _ _ _ _ _ _ w (fun w => ver_calls (Red.parse a) (Red.parse b) w ⟨by omega, by omega, by omega⟩ ⟨by omega, by omega, by omega⟩))
def impl_RedHatCompare.f (a0 a1 : ByteArray) : Option (Int × Bool) := if a0.size ≤ 1000000 then (if a1.size ≤ 1000000 then some (Red.cmp a0.toList a1.toList, true) else none) else none
theorem impl_RedHatCompare.calls (a0 a1 : ByteArray) (r1 : Int) (r2 : Bool) (w : World) (h : impl_RedHatCompare.f a0 a1 = some (r1, r2)) :
    Calls Tryd.prog 8 #[.string a0, .string a1] w fun e w' => e = .returned (.tuple #[.int .i64 r1, .bool r2]) ∧ Below w.heap.size w w' := by
  unfold impl_RedHatCompare.f at h
  by_cases h0 : a0.size ≤ 1000000
  · by_cases h1 : a1.size ≤ 1000000
    · rw [if_pos h0, if_pos h1] at h
      have h := Option.some.inj h
      obtain ⟨rfl, rfl⟩ := Prod.mk.inj h
      have := impl_calls a0.toList a1.toList w (by rw [len_toList]; exact h0) (by rw [len_toList]; exact h1)
      rwa [← bs_of, ← bs_of] at this
    · rw [if_pos h0, if_neg h1] at h
      exact absurd h (by simp)
  · rw [if_neg h0] at h
    exact absurd h (by simp)
end Go.Proofs.YtehlakaccgccbaaDoor.Giv
