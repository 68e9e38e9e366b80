/- Several texts of this claim in one. Put together by wip/tool/merge.py. -/
import Derived.Test.YtnbpoplomdocjaaGreatDoorZD
import Derived.Test.YtnbpoplomdocjaaGreatDoorQRx
import Derived.Test.YtnbpoplomdocjaaGreatDoorZRA
import Derived.Test.YtnbpoplomdocjaaGreatDoorZK
import Derived.Test.YtnbpoplomdocjaaGreatDoorZE
import Derived.Outline
/- 'zzIndex', 'zzCut' at a text of one byte. -/
namespace Go.Proofs.YtnbpoplomdocjaaGreatDoor.QR
open Go.RowKit Go.Proofs.YtnbpoplomdocjaaGreatDoorW.PrintWords Go.Proofs.YtnbpoplomdocjaaGreatDoorW.PrintLast Go.Proofs.YtnbpoplomdocjaaGreatDoor.Pk Go.Proofs.YtnbpoplomdocjaaGreatDoor.Giv
set_option linter.unusedVariables false

theorem one_size (c : UInt8) : (⟨#[c]⟩ : ByteArray).size = 1 := rfl
theorem one_toList (c : UInt8) : (⟨#[c]⟩ : ByteArray).toList = [c] := by rw [toList_eq']
theorem zzIndex_loop (s : ByteArray) (c : UInt8) (hs : s.size < 4611686018427387904) (d : Nat) : ∀ i : Nat, i + d = s.size → (s.toList.take i).any (fun x => x == c) = false → Ev (fun k => semantic_zzIndex.l0 k s ⟨#[c]⟩ (i : Int)) (placeOf (fun x => x == c) s.toList) := by
  induction d with
  | zero =>
    intro i hi hno
    have w := wr i (by omega)
    refine Ev.step (fun k => by rw [semantic_zzIndex.l0, one_size]) ?_
    have w' : wrap64 ((i : Int) + ((1 : Nat) : Int)) = ((i + 1 : Nat) : Int) := w
    rw [w']
    refine ev_neg (by omega) ?_
    rw [List.take_of_length_le (by rw [len_toList]; omega)] at hno
    have e : placeOf (fun x => x == c) s.toList = -1 := by
      unfold placeOf
      rw [hno]
      rfl
    rw [e]
    exact Ev.now _
  | succ d ih =>
    intro i hi hno
    have hlt : i < s.size := by omega
    have w := wr i (by omega)
    have w' : wrap64 ((i : Int) + ((1 : Nat) : Int)) = ((i + 1 : Nat) : Int) := w
    refine Ev.step (fun k => by rw [semantic_zzIndex.l0, one_size]) ?_
    rw [w', w]
    refine ev_pos (by omega) (ev_pos (by omega) (ev_pos (by omega) ?_))
    have hx : (s.extract ((i : Int)).toNat (((i + 1 : Nat) : Int)).toNat).toList = [s[i]'hlt] := by
      rw [Int.toNat_natCast, Int.toNat_natCast, ext_toList, drop_at s i hlt, show i + 1 - i = 1 by omega]
      rfl
    rw [hx, one_toList]
    by_cases h : (s[i]'hlt) = c
    · refine ev_pos (by rw [h]) ?_
      rw [placeOf_step _ s.toList i (by rw [len_toList]; exact hlt) hno (by rw [getElem_toList s i hlt, h]; simp)]
      exact Ev.now _
    · refine ev_neg (fun e => h (List.cons.inj e).1) ?_
      refine ih (i + 1) (by omega) ?_
      rw [take_next' s i hlt, List.any_append, hno]
      simpa using h
theorem zzIndex_ev (s : ByteArray) (c : UInt8) (hs : s.size < 4611686018427387904) : Ev (fun k => semantic_zzIndex.f k s ⟨#[c]⟩) (placeOf (fun x => x == c) s.toList) := zzIndex_loop s c hs s.size 0 (by omega) (by simp)
theorem zzCut_no (s : ByteArray) (c : UInt8) (hs : s.size < 4611686018427387904) (h : placeOf (fun x => x == c) s.toList = -1) : Ev (fun k => semantic_zzCut.f k s ⟨#[c]⟩) (s, ⟨#[]⟩, false) := by
  have e := zzIndex_ev s c hs
  rw [h] at e
  refine e.bind ?_
  exact ev_neg (by omega) (Ev.now _)
theorem zzCut_yes (s : ByteArray) (c : UInt8) (hs : s.size < 4611686018427387904) (i : Nat) (hi : i < s.size) (h : placeOf (fun x => x == c) s.toList = i) : Ev (fun k => semantic_zzCut.f k s ⟨#[c]⟩) (s.extract 0 i, s.extract (i + 1) s.size, true) := by
  have e := zzIndex_ev s c hs
  rw [h] at e
  refine e.bind ?_
  have w : wrap64 ((i : Int) + ((⟨#[c]⟩ : ByteArray).size : Int)) = ((i + 1 : Nat) : Int) := wr i (by omega)
  rw [w]
  refine ev_pos (by omega) (ev_pos (by omega) (ev_pos (by omega) (ev_pos (by omega) (ev_pos (by omega) ?_))))
  rw [Int.toNat_natCast, Int.toNat_natCast]
  exact Ev.now _
end Go.Proofs.YtnbpoplomdocjaaGreatDoor.QR
/- Contracts by hand: Red Hat versions, parsed and compared, by the printed parse. -/
namespace Go.Proofs.YtnbpoplomdocjaaGreatDoor.QR
open Go.RowKit Go.Proofs.YtnbpoplomdocjaaGreatDoorW.PrintWords Go.Proofs.YtnbpoplomdocjaaGreatDoorW.PrintLast Go.Proofs.YtnbpoplomdocjaaGreatDoor.Pk Go.Proofs.YtnbpoplomdocjaaGreatDoor.Giv Go.Proofs.YtnbpoplomdocjaaGreatDoor.Ord
set_option linter.unusedVariables false
set_option linter.unusedSimpArgs false

theorem dw_nil {p : UInt8 → Bool} : ∀ {l : List UInt8}, l.dropWhile p = [] ↔ ∀ x ∈ l, p x = true
  | [] => by simp
  | x :: l => by
    by_cases h : p x = true
    · rw [List.dropWhile_cons_of_pos h, dw_nil]
      simp [h]
    · rw [List.dropWhile_cons_of_neg h]
      simp [h]
theorem place_tw (c : UInt8) : ∀ l : List UInt8, l.findIdx (fun x => x == c) = (l.takeWhile (Red.notC c)).length
  | [] => rfl
  | x :: l => by
    rw [List.findIdx_cons]
    by_cases h : x = c
    · simp [h, Red.notC]
    · have hb : (x == c) = false := by simpa using h
      rw [hb, List.takeWhile_cons_of_pos (by simp [Red.notC, hb]), List.length_cons, place_tw c l]
      simp
/-- A text cut at the first c. -/
theorem cut_ev (c : UInt8) (l : List UInt8) (hl : l.length < 4611686018427387904) : Ev (fun k => semantic_zzCut.f k (bs l) ⟨#[c]⟩) (if l.any (fun x => x == c) then (bs (l.takeWhile (Red.notC c)), bs (l.dropWhile (Red.notC c)).tail, true) else (bs l, ⟨#[]⟩, false)) := by
  by_cases h : l.any (fun x => x == c) = true
  · rw [if_pos h]
    have e : placeOf (fun x => x == c) (bs l).toList = ((l.takeWhile (Red.notC c)).length : Int) := by
      rw [bs_toList]
      unfold placeOf
      rw [if_pos h, place_tw]
    have hlt : (l.takeWhile (Red.notC c)).length < (bs l).size := by
      rw [bs_size, ← place_tw, List.findIdx_lt_length]
      simpa using h
    have z := zzCut_yes (bs l) c (by rw [bs_size]; exact hl) _ hlt e
    rw [bs_extHead, bs_extAll, take_tw, ← List.drop_drop, drop_tw, List.drop_one] at z
    exact z
  · rw [if_neg h]
    refine zzCut_no (bs l) c (by rw [bs_size]; exact hl) ?_
    rw [bs_toList]
    unfold placeOf
    rw [if_neg h]
theorem parse_tail (e l : List UInt8) (hl : l.length < 4611686018427387904) : Ev (fun k => semantic_ParseRedHatVersion.j1 k (bs e) (bs l)) (bs (Red.tail e l).1, bs (Red.tail e l).2.1, bs (Red.tail e l).2.2) := by
  refine Ev.step (fun k => by rw [semantic_ParseRedHatVersion.j1]) ?_
  refine (cut_ev 45 l hl).bind ?_
  rw [bs_toList]
  by_cases h : l.any (fun x => x == 45) = true
  · rw [if_pos h]
    have hd : l.dropWhile (Red.notC 45) = 45 :: (l.dropWhile (Red.notC 45)).tail := by
      cases hc : l.dropWhile (Red.notC 45) with
      | nil =>
        rw [dw_nil] at hc
        rw [List.any_eq_true] at h
        obtain ⟨x, hx, hx'⟩ := h
        have := hc x hx
        unfold Red.notC at this
        rw [hx'] at this
        simp at this
      | cons x r =>
        have := List.head_dropWhile_not (p := Red.notC 45) (l := l) (by rw [hc]; simp)
        simp only [hc, List.head_cons] at this
        unfold Red.notC at this
        have hx : x = 45 := by simpa using this
        rw [hx]
        rfl
    have t := Red.dw_le (Red.notC 45) l
    refine ev_pos rfl (ev_pos (by rw [bs_size, List.length_tail]; omega) ?_)
    have er : (⟨#[45]⟩ : ByteArray) ++ bs (l.dropWhile (Red.notC 45)).tail = bs (l.dropWhile (Red.notC 45)) := by
      show bs [45] ++ _ = _
      rw [bs_append]
      congr 1
      exact hd.symm
    rw [er]
    unfold Red.tail
    by_cases he : e = []
    · refine ev_pos he ?_
      rw [if_pos he]
      exact Ev.now _
    · refine ev_neg he ?_
      rw [if_neg he]
      exact Ev.now _
  · rw [if_neg h]
    refine ev_neg (by simp) ?_
    have hall : ∀ x ∈ l, Red.notC 45 x = true := by
      intro x hx
      have h' : l.any (fun x => x == 45) = false := Bool.eq_false_iff.2 h
      rw [List.any_eq_false] at h'
      unfold Red.notC
      simpa using h' x hx
    have t1 : l.takeWhile (Red.notC 45) = l := by
      conv => rhs; rw [← List.takeWhile_append_dropWhile (p := Red.notC 45) (l := l), dw_nil.2 hall, List.append_nil]
    have t2 : l.dropWhile (Red.notC 45) = [] := dw_nil.2 hall
    unfold Red.tail
    rw [t1, t2]
    by_cases he : e = []
    · refine ev_pos he ?_
      rw [if_pos he]
      exact Ev.now _
    · refine ev_neg he ?_
      rw [if_neg he]
      exact Ev.now _
theorem parse_ev (l : List UInt8) (hl : l.length ≤ 140737488351232) : Ev (fun k => semantic_ParseRedHatVersion.f k (bs l)) (bs (Red.parse l).1, bs (Red.parse l).2.1, bs (Red.parse l).2.2) := by
  unfold semantic_ParseRedHatVersion.f
  refine (cut_ev 58 l (by omega)).bind ?_
  have a := Red.tw_le (Red.notC 58) l
  have b := Red.dw_le (Red.notC 58) l
  unfold Red.parse
  by_cases h : l.any (fun x => x == 58) = true
  · rw [if_pos h, h, Bool.true_and]
    refine ev_pos rfl ?_
    unfold Giv.semantic_isOnlyDigits.f onlyDigits
    rw [if_pos (by rw [bs_size]; omega), bs_toList]
    refine ev_some ?_
    refine Ev.step (fun k => by rw [semantic_ParseRedHatVersion.j0]) ?_
    by_cases hd : (l.takeWhile (Red.notC 58)).all Rpm.dig = true
    · rw [if_pos hd]
      refine ev_neg (by simp [hd]) ?_
      exact parse_tail _ _ (by rw [List.length_tail]; omega)
    · rw [if_neg hd]
      refine ev_pos (by simpa using hd) ?_
      exact parse_tail [] l (by omega)
  · have h' : l.any (fun x => x == 58) = false := Bool.eq_false_iff.2 h
    rw [if_neg h, h', Bool.false_and, if_neg (by simp)]
    refine ev_neg (by simp) ?_
    refine Ev.step (fun k => by rw [semantic_ParseRedHatVersion.j0]) ?_
    refine ev_pos rfl ?_
    exact parse_tail [] l (by omega)
theorem parse_calls (l : List UInt8) (w : World) (hl : l.length ≤ 140737488351232) :
    Calls Tryz.prog 19 #[.string (bs l)] w fun e w' => e = .returned (.agg #[.string (bs (Red.parse l).1), .string (bs (Red.parse l).2.1), .string (bs (Red.parse l).2.2)]) ∧ Below w.heap.size w w' := by
  obtain ⟨K, h⟩ := parse_ev l hl
  exact semantic_ParseRedHatVersion.calls K (bs l) _ _ _ w (h K (Nat.le_refl _))
end Go.Proofs.YtnbpoplomdocjaaGreatDoor.QR
namespace Go.Proofs.YtnbpoplomdocjaaGreatDoor.Giv
open Go.RowKit Go.Proofs.YtnbpoplomdocjaaGreatDoorW.PrintWords Go.Proofs.YtnbpoplomdocjaaGreatDoorW.PrintLast Go.Proofs.YtnbpoplomdocjaaGreatDoor.Pk Go.Proofs.YtnbpoplomdocjaaGreatDoor.Ord Go.Proofs.YtnbpoplomdocjaaGreatDoor.QR
theorem pc (a b : List UInt8) (w : World) (ha : a.length ≤ 2147483647) (hb : b.length ≤ 2147483647) :
    Calls Tryz.prog 81 #[.string (bs a), .string (bs b)] w fun e w' => e = .returned (.int .i64 (Rpm.parts a b)) ∧ Below w.heap.size w w' := by
  have := parts_calls (bs a) (bs b) w (by rw [bs_size]; exact ha) (by rw [bs_size]; exact hb)
  rwa [bs_toList, bs_toList] at this
def agg (v : Red.Ver) : Value := .agg #[.string (bs v.1), .string (bs v.2.1), .string (bs v.2.2)]
def small (v : Red.Ver) : Prop := v.1.length ≤ 2147483647 ∧ v.2.1.length ≤ 2147483647 ∧ v.2.2.length ≤ 2147483647
theorem ver_calls (x y : Red.Ver) (w : World) (hx : small x) (hy : small y) :
    Calls Tryz.prog 44 #[agg x, agg y] w fun e w' => e = .returned (.int .i64 (Red.vc x y)) ∧ Below w.heap.size w w' := by
  refine semantic_RedHatVersion_compare.calls _ _ _ _ _ _ _ w ?_
  unfold semantic_RedHatVersion_compare.f Giv.semantic_compareRedHatComponents.f
  simp only [bs_size, bs_toList]
  obtain ⟨hx1, hx2, hx3⟩ := hx
  obtain ⟨hy1, hy2, hy3⟩ := hy
  rw [if_pos hx1, if_pos hx2, if_pos hx3, if_pos hy1, if_pos hy2, if_pos hy3]
  unfold Red.vc
  simp only [Option.bind_some]
  by_cases z1 : Rpm.parts x.1 y.1 = 0
  · rw [if_pos z1, if_pos z1]
    by_cases z2 : Rpm.parts x.2.1 y.2.1 = 0
    · rw [if_pos z2, if_pos z2]
      by_cases z3 : Rpm.parts x.2.2 y.2.2 = 0
      · rw [if_pos z3, z3]
      · rw [if_neg z3]
    · rw [if_neg z2, if_neg z2]
  · rw [if_neg z1, if_neg z1]
theorem run_assert_same {P : Program} {t : TypeId} {fs : Array Field} (h : P.underlying t = some (.struct fs)) (xT : TypeId) (v : Value) (w : World) : (Instr.typeAssert (.iface t v) xT t true).run P w = .ok (.tuple #[v, .bool true]) w := by
  simp [Instr.typeAssert, run_underlying h, go_sem, Result.andThen]
theorem run_nil_eql {P : Program} {ti : TypeId} {ms : Array (String × TypeId)} (hi : P.underlying ti = some (.interface ms)) (w : World) : (binOp .eql ti .nilIface .nilIface).run P w = .ok (.bool true) w := by
  have h : ∀ d : Nat, (Op.equalIn (d + 1) ti .nilIface .nilIface).run P w = .ok true w := fun d => by simp [Op.equalIn, run_underlying hi]
  simp only [binOp]
  simp [show Op.equal ti .nilIface .nilIface = Op.equalIn (9999 + 1) ti .nilIface .nilIface from rfl, h]
set_option maxHeartbeats 1000000 in
theorem Compare_calls (x1 x2 x3 y1 y2 y3 : ByteArray) (r : Int) (w : World) (c : ∀ w, Calls Tryz.prog 44 #[.agg #[.string x1, .string x2, .string x3], .agg #[.string y1, .string y2, .string y3]] w fun e w' => e = .returned (.int .i64 r) ∧ Below w.heap.size w w') :
    Calls Tryz.prog 20 #[.agg #[.string x1, .string x2, .string x3], .iface 42 (.agg #[.string y1, .string y2, .string y3])] w fun e w' => e = .returned (.tuple #[.int .i64 r, .nilIface]) ∧ Below w.heap.size w w' := by
  have hta := fun v w => run_assert_same Tryz.underlying42 30 v w
  go_enter Tryz.func20, Tryz.ntmps20
  go_wp2_with (first | (go_at_call 44; refine (c _).mono ?_; rintro e w1 ⟨rfl, hb1⟩))
  go_ret2
  have h1 := (Below.refl w.heap.size w).alloc (Nat.le_refl _) (Obj.cells #[Value.string x1, Value.string x2, Value.string x3] 42)
  have h2 := h1.alloc h1.size (Obj.cells #[Value.string y1, Value.string y2, Value.string y3] 42)
  exact ⟨rfl, h2.trans (hb1.mono h2.size)⟩
theorem below_drewN {B : Nat} {a w : World} (h : Below B a w) (n : Nat) : Below B a (w.drewN n) := ⟨h.os, h.tape, h.output, h.size, h.block⟩
set_option maxHeartbeats 1000000 in
theorem impl_calls0 (s t x1 x2 x3 y1 y2 y3 : ByteArray) (r : Int) (w : World)
    (c1 : ∀ w, Calls Tryz.prog 19 #[.string s] w fun e w' => e = .returned (.agg #[.string x1, .string x2, .string x3]) ∧ Below w.heap.size w w')
    (c2 : ∀ w, Calls Tryz.prog 19 #[.string t] w fun e w' => e = .returned (.agg #[.string y1, .string y2, .string y3]) ∧ Below w.heap.size w w')
    (c3 : ∀ w, Calls Tryz.prog 20 #[.agg #[.string x1, .string x2, .string x3], .iface 42 (.agg #[.string y1, .string y2, .string y3])] w fun e w' => e = .returned (.tuple #[.int .i64 r, .nilIface]) ∧ Below w.heap.size w w') :
    Calls Tryz.prog 8 #[.string s, .string t] w fun e w' => e = .returned (.tuple #[.int .i64 r, .bool true]) ∧ Below w.heap.size w w' := by
  have hmi : ∀ x w, (Instr.makeInterface 42 x).run Tryz.prog w = .ok (.iface 42 x) w := fun x w => run_makeInterface w 42 x (by kernel_rfl)
  have hnn := fun w => run_nil_eql Tryz.underlying33 w
  go_enter Tryz.func8, Tryz.ntmps8
  go_wp2_with (first | (go_at_call 19; (with_reducible refine (c1 _).mono ?_); rintro e w1 ⟨rfl, hb1⟩) | (go_at_call 19; (with_reducible refine (c2 _).mono ?_); rintro e w2 ⟨rfl, hb2⟩) | (go_at_call 20; (with_reducible refine (c3 _).mono ?_); rintro e w3 ⟨rfl, hb3⟩))
  go_quiet (fail)
  go_wp2_with fail
  go_ret2
  exact ⟨rfl, below_drewN ((hb1.trans (hb2.mono hb1.size)).trans (hb3.mono (Nat.le_trans hb1.size hb2.size))) _⟩
theorem impl_calls (a b : List UInt8) (w : World) (ha : a.length ≤ 1000000) (hb : b.length ≤ 1000000) :
    Calls Tryz.prog 8 #[.string (bs a), .string (bs b)] w fun e w' => e = .returned (.tuple #[.int .i64 (Red.cmp a b), .bool true]) ∧ Below w.heap.size w w' := by
  have la := Red.parse_len a
  have lb := Red.parse_len b
  exact impl_calls0 _ _ _ _ _ _ _ _ _ w (fun w => parse_calls a w (by omega)) (fun w => parse_calls b w (by omega)) (fun w => Compare_calls _ _ _ _ _ _ _ w (fun w => ver_calls (Red.parse a) (Red.parse b) w ⟨by omega, by omega, by omega⟩ ⟨by omega, by omega, by omega⟩))
def impl_RedHatCompare.f (a0 a1 : ByteArray) : Option (Int × Bool) := if a0.size ≤ 1000000 then (if a1.size ≤ 1000000 then some (Red.cmp a0.toList a1.toList, true) else none) else none
theorem impl_RedHatCompare.calls (a0 a1 : ByteArray) (r1 : Int) (r2 : Bool) (w : World) (h : impl_RedHatCompare.f a0 a1 = some (r1, r2)) :
    Calls Tryz.prog 8 #[.string a0, .string a1] w fun e w' => e = .returned (.tuple #[.int .i64 r1, .bool r2]) ∧ Below w.heap.size w w' := by
  unfold impl_RedHatCompare.f at h
  by_cases h0 : a0.size ≤ 1000000
  · by_cases h1 : a1.size ≤ 1000000
    · rw [if_pos h0, if_pos h1] at h
      have h := Option.some.inj h
      obtain ⟨rfl, rfl⟩ := Prod.mk.inj h
      have := impl_calls a0.toList a1.toList w (by rw [len_toList]; exact h0) (by rw [len_toList]; exact h1)
      rwa [← bs_of, ← bs_of] at this
    · rw [if_pos h0, if_neg h1] at h
      exact absurd h (by simp)
  · rw [if_neg h0] at h
    exact absurd h (by simp)
end Go.Proofs.YtnbpoplomdocjaaGreatDoor.Giv
/- Contract by hand: versions of RubyGems parsed and compared through the interface Version, by the printed parse. -/
namespace Go.Proofs.YtnbpoplomdocjaaGreatDoor.Giv
open Go.RowKit Go.Proofs.YtnbpoplomdocjaaGreatDoorW.PrintWords Go.Proofs.YtnbpoplomdocjaaGreatDoorW.PrintLast Go.Proofs.YtnbpoplomdocjaaGreatDoor.Pk Go.Proofs.YtnbpoplomdocjaaGreatDoor.Ord Go.Proofs.YtnbpoplomdocjaaGreatDoor.QR
set_option linter.unusedVariables false
set_option linter.unusedSimpArgs false

set_option maxHeartbeats 1000000 in
theorem rubyCompare_calls (x1 y1 : ByteArray) (A1 A2 : Option Addr) (m1 m2 n1 n2 : Nat) (r : Int) (w : World) (c : ∀ w', Below w.heap.size w w' → Calls Tryz.prog 51 #[.agg #[.string x1, .slice A1 m1 n1], .agg #[.string y1, .slice A2 m2 n2]] w' fun e w'' => e = .returned (.int .i64 r) ∧ Below w'.heap.size w' w'') :
    Calls Tryz.prog 24 #[.agg #[.string x1, .slice A1 m1 n1], .iface 51 (.agg #[.string y1, .slice A2 m2 n2])] w fun e w' => e = .returned (.tuple #[.int .i64 r, .nilIface]) ∧ Below w.heap.size w w' := by
  have hta := fun v w => run_assert_is Tryz.underlying51 30 v w
  have h1 := (Below.refl w.heap.size w).alloc (Nat.le_refl _) (Obj.cells #[Value.string x1, Value.slice A1 m1 n1] 51)
  have h2 := h1.alloc h1.size (Obj.cells #[Value.string y1, Value.slice A2 m2 n2] 51)
  have c' := c _ h2
  have H2 := Aside0.mk h2
  clear h1 h2 c
  go_enter Tryz.func24, Tryz.ntmps24
  go_wp2_with (first | (go_at_call 51; refine c'.mono ?_; rintro e w1 ⟨rfl, hb1⟩))
  go_ret2
  exact ⟨rfl, H2.out.trans (hb1.mono H2.out.size)⟩
def impl_RubyCompare.f (k : Nat) (a0 a1 : ByteArray) : Option (Int × Bool) := (semantic_ParseRubyGemsVersion.f k a0).bind fun x => ((semantic_ParseRubyGemsVersion.f k a1).bind fun y => ((semantic_RubyGemsVersion_compare.f x.1 x.2 y.1 y.2).bind fun r => some (r, true)))
theorem impl_RubyCompare.mono : ∀ a0 a1 k, LeO (impl_RubyCompare.f k a0 a1) (impl_RubyCompare.f (k + 1) a0 a1) := by
  intro a0 a1 k
  unfold impl_RubyCompare.f
  exact LeO.bind (semantic_ParseRubyGemsVersion.mono _ _) (fun _ => LeO.bind (semantic_ParseRubyGemsVersion.mono _ _) (fun _ => LeO.refl _))
set_option maxHeartbeats 2000000 in
theorem impl_RubyCompare.calls (k : Nat) (a0 a1 : ByteArray) (r1 : Int) (r2 : Bool) (w : World) (h : impl_RubyCompare.f k a0 a1 = some (r1, r2)) (hL : Laid w) :
    Calls Tryz.prog 10 #[.string a0, .string a1] w fun e w' => e = .returned (.tuple #[.int .i64 r1, .bool r2]) ∧ Below w.heap.size w w' := by
  unfold impl_RubyCompare.f at h
  obtain ⟨⟨x1, x2⟩, hx, h⟩ := Option.bind_eq_some_iff.1 h
  obtain ⟨⟨y1, y2⟩, hy, h⟩ := Option.bind_eq_some_iff.1 h
  obtain ⟨r, hr, h⟩ := Option.bind_eq_some_iff.1 h
  have h := Option.some.inj h
  obtain ⟨rfl, rfl⟩ := Prod.mk.inj h
  have c1 := semantic_ParseRubyGemsVersion.calls k a0 x1 x2 w hx hL
  have c2 := fun (w1 : World) (hb : Below w.heap.size w w1) => semantic_ParseRubyGemsVersion.calls k a1 y1 y2 w1 hy (hL.below hb)
  have c3 := fun (w1 w2 : World) (v1 v2 : Value) (hb1 : Below w.heap.size w w1) (hr1 : Kd.R Kd.string 9 w1 w.heap.size (fun _ => True) v1 x2) (hb2 : Below w1.heap.size w1 w2) (hr2 : Kd.R Kd.string 9 w2 w1.heap.size (fun _ => True) v2 y2) =>
    show Calls Tryz.prog 24 #[.agg #[.string x1, v1], .iface 51 (.agg #[.string y1, v2])] w2 fun e w' => e = .returned (.tuple #[.int .i64 r, .nilIface]) ∧ Below w2.heap.size w2 w' from by
      obtain ⟨A1, n1, rfl, hn1, hc1'⟩ := Kd.R_reads (Kd.R_below hr1 hb2)
      obtain ⟨A2, n2, rfl, hn2, hc2'⟩ := Kd.R_reads hr2
      refine rubyCompare_calls x1 y1 A1 A2 _ _ n1 n2 r w2 (fun w3 hb3 => ?_)
      have hc1 := Kd.C_below hc1' hb3
      have hc2 := Kd.C_below hc2' hb3
      exact semantic_RubyGemsVersion_compare.calls x1 A1 n1 x2 y1 A2 n2 y2 r w3 hc1 hn1 hc2 hn2 hr (hL.below (hb1.trans ((hb2.mono hb1.size).trans (hb3.mono (Nat.le_trans hb1.size hb2.size)))))
  have hmi : ∀ x w, (Instr.makeInterface 51 x).run Tryz.prog w = .ok (.iface 51 x) w := fun x w => run_makeInterface w 51 x (by kernel_rfl)
  have hnn := fun w => run_nil_nil Tryz.underlying33 w
  clear hx hy hr hL
  go_enter Tryz.func10, Tryz.ntmps10
  go_wp2_with (first | (go_at_call 23; (with_reducible refine c1.mono ?_); rintro e w1 ⟨v1, rfl, hr1, hb1⟩; have B1 := Aside0.mk hb1; have R1 := Aside0.mk hr1; clear hb1 hr1) | (go_at_call 23; (with_reducible refine (c2 _ B1.out).mono ?_); rintro e w2 ⟨v2, rfl, hr2, hb2⟩; have B2 := Aside0.mk hb2; have R2 := Aside0.mk hr2; clear hb2 hr2) | (go_at_call 24; (with_reducible refine (c3 _ _ _ _ B1.out R1.out B2.out R2.out).mono ?_); rintro e w3 ⟨rfl, hb3⟩; have B3 := Aside0.mk hb3; clear hb3))
  go_quiet (fail)
  go_wp2_with fail
  go_ret2
  exact ⟨rfl, bel_drewN ((B1.out.trans (B2.out.mono B1.out.size)).trans (B3.out.mono (Nat.le_trans B1.out.size B2.out.size))) _⟩
end Go.Proofs.YtnbpoplomdocjaaGreatDoor.Giv
/- What the program answers of texts cut at a byte. -/
namespace Go.Proofs.YtnbpoplomdocjaaGreatDoor.QR
open Go.RowKit Go.Proofs.YtnbpoplomdocjaaGreatDoorW.PrintWords Go.Proofs.YtnbpoplomdocjaaGreatDoorW.PrintLast Go.Proofs.YtnbpoplomdocjaaGreatDoor.Pk Go.Proofs.YtnbpoplomdocjaaGreatDoor.Giv Go.Proofs.YtnbpoplomdocjaaGreatDoor.Ord
set_option linter.unusedVariables false

theorem sp_one (c : UInt8) : (⟨#[c]⟩ : ByteArray) = bs [c] := rfl
theorem sp_idx_loop (l : List UInt8) (c : UInt8) (hs : l.length < 4611686018427387904) (d : Nat) : ∀ i : Nat, i + d = l.length → (l.take i).any (fun x => x == c) = false → Ev (fun k => semantic_zzIndex.l0 k (bs l) (bs [c]) (i : Int)) (placeOf (fun x => x == c) l) := by
  induction d with
  | zero =>
    intro i hi hno
    have w := wr i (by omega)
    refine Ev.step (fun k => by rw [semantic_zzIndex.l0, bs_size, bs_size]) ?_
    have w' : wrap64 ((i : Int) + (([c] : List UInt8).length : Int)) = ((i + 1 : Nat) : Int) := w
    rw [w']
    refine ev_neg (by omega) ?_
    rw [List.take_of_length_le (by omega)] at hno
    have e : placeOf (fun x => x == c) l = -1 := by
      unfold placeOf
      rw [hno]
      rfl
    rw [e]
    exact Ev.now _
  | succ d ih =>
    intro i hi hno
    have hlt : i < l.length := by omega
    have w := wr i (by omega)
    have w' : wrap64 ((i : Int) + (([c] : List UInt8).length : Int)) = ((i + 1 : Nat) : Int) := w
    refine Ev.step (fun k => by rw [semantic_zzIndex.l0, bs_size, bs_size]) ?_
    rw [w', w]
    refine ev_pos (by omega) (ev_pos (by omega) (ev_pos (by omega) ?_))
    have hx : ((bs l).extract ((i : Int)).toNat (((i + 1 : Nat) : Int)).toNat).toList = [l[i]'hlt] := by
      rw [Int.toNat_natCast, Int.toNat_natCast, bs_ext, bs_toList, List.drop_eq_getElem_cons hlt, show i + 1 - i = 1 by omega]
      rfl
    rw [hx, bs_toList]
    by_cases h : (l[i]'hlt) = c
    · refine ev_pos (by rw [h]) ?_
      rw [placeOf_step _ l i hlt hno (by rw [h]; simp)]
      exact Ev.now _
    · refine ev_neg (fun e => h (List.cons.inj e).1) ?_
      refine ih (i + 1) (by omega) ?_
      rw [List.take_succ_eq_append_getElem hlt, List.any_append, hno]
      simpa using h
theorem sp_idx (l : List UInt8) (c : UInt8) (hs : l.length < 4611686018427387904) : Ev (fun k => semantic_zzIndex.f k (bs l) (bs [c])) (placeOf (fun x => x == c) l) := sp_idx_loop l c hs l.length 0 (by omega) (by simp)
theorem sp_place (c : UInt8) (l : List UInt8) (h : (l.any (fun x => x == c)) = true) : placeOf (fun x => x == c) l = ((Cut.upTo c l).length : Int) := by
  unfold placeOf
  rw [if_pos h]
  congr 1
  induction l with
  | nil => simp at h
  | cons x r ih =>
    unfold Cut.upTo
    rw [List.findIdx_cons]
    by_cases hx : x = c
    · rw [List.takeWhile_cons_of_neg (by simp [hx])]
      simp [hx]
    · rw [List.takeWhile_cons_of_pos (by simp [hx])]
      rw [List.any_cons] at h
      have hr : (r.any fun x => x == c) = true := by simpa [hx] using h
      have := ih hr
      unfold Cut.upTo at this
      have hb : (x == c) = false := by simpa using hx
      rw [hb, List.length_cons]
      simp [this]
theorem sp_loop (c : UInt8) (n : Nat) : ∀ (l : List UInt8) (acc : List ByteArray), l.length ≤ n → acc.length + l.length < 8796093022207 → Ev (fun k => semantic_zzSplit.l1 k (bs l) (bs [c]) acc) (acc ++ (Cut.cutAt c l).map bs) := by
  induction n with
  | zero =>
    intro l acc hl ha
    have e : l = [] := List.length_eq_zero_iff.1 (by omega)
    subst e
    refine Ev.step (fun k => by rw [semantic_zzSplit.l1]) ?_
    refine (sp_idx [] c (by simp)).bind ?_
    refine ev_pos (by simp [placeOf]) (ev_pos (by omega) ?_)
    exact Ev.now _
  | succ n ih =>
    intro l acc hl ha
    refine Ev.step (fun k => by rw [semantic_zzSplit.l1]) ?_
    refine (sp_idx l c (by omega)).bind ?_
    by_cases h : (l.any (fun x => x == c)) = true
    · obtain ⟨e1, e2, e3⟩ := Cut.cutAt_yes c l h
      rw [sp_place c l h, e1]
      generalize (Cut.upTo c l).length = j at *
      have w : wrap64 ((j : Int) + ((bs [c]).size : Int)) = ((j + 1 : Nat) : Int) := by
        rw [bs_size]
        exact wr j (by omega)
      refine ev_neg (by omega) (ev_pos (by omega) (ev_pos (by rw [bs_size]; omega) (ev_pos (by omega) ?_)))
      rw [w]
      refine ev_pos (by omega) (ev_pos (by rw [bs_size]; omega) ?_)
      rw [Int.toNat_natCast, Int.toNat_natCast, bs_extAll, bs_extHead, e3]
      have z := ih (l.drop (j + 1)) (acc ++ [bs (Cut.upTo c l)]) (by rw [List.length_drop]; omega) (by rw [List.length_append, List.length_singleton, List.length_drop]; omega)
      rw [List.append_assoc] at z
      exact z
    · have h' : (l.any (fun x => x == c)) = false := Bool.eq_false_iff.2 h
      have e : placeOf (fun x => x == c) l = -1 := by
        unfold placeOf
        rw [h']
        rfl
      rw [e, (Cut.cutAt_no c l h').1]
      refine ev_pos (by omega) (ev_pos (by omega) ?_)
      exact Ev.now _
theorem split_ev (c : UInt8) (l : List UInt8) (hl : l.length < 8796093022207) : Ev (fun k => semantic_zzSplit.f k (bs l) (bs [c])) ((Cut.cutAt c l).map bs) := by
  unfold semantic_zzSplit.f
  refine ev_neg (by rw [bs_size]; simp) ?_
  have := sp_loop c l.length l [] (Nat.le_refl _) (by simpa using hl)
  exact this
end Go.Proofs.YtnbpoplomdocjaaGreatDoor.QR
/- What the program answers: segments of versions of RubyGems. -/
namespace Go.Proofs.YtnbpoplomdocjaaGreatDoor.QR
open Go.RowKit Go.Proofs.YtnbpoplomdocjaaGreatDoorW.PrintWords Go.Proofs.YtnbpoplomdocjaaGreatDoorW.PrintLast Go.Proofs.YtnbpoplomdocjaaGreatDoor.Pk Go.Proofs.YtnbpoplomdocjaaGreatDoor.Giv Go.Proofs.YtnbpoplomdocjaaGreatDoor.Ord Go.Proofs.YtnbpoplomdocjaaGreatDoor.Canon
set_option linter.unusedVariables false

theorem trimRd (l : List ByteArray) (n : Nat) (h : n < l.length) : rdOf ByteArray.empty l (n : Int) = l.getD n ⟨#[]⟩ := by
  rw [rdOf_nat _ _ n h, List.getD_eq_getElem?_getD, List.getElem?_eq_getElem h]
  rfl
theorem mx_nat (n : Nat) : mx (n : Int) 0 = (n : Int) := by unfold mx; split <;> omega
theorem mx_neg : mx (((0 : Nat) : Int) - 1) 0 = ((0 : Nat) : Int) := by decide
theorem rz_loop (l : List ByteArray) (hl : l.length < 8796093022207) : ∀ n : Nat, n ≤ l.length → Ev (fun k => semantic_removeZeros.l0 k l ((n : Int) - 1)) (l.take (cutZ l n))
  | 0, _ => by
    refine Ev.step (fun k => by rw [semantic_removeZeros.l0, mx_neg]) ?_
    exact ev_neg (by omega) (ev_pos (by omega) (ev_pos (by omega) (Ev.now _)))
  | n + 1, h => by
    have e : ((n + 1 : Nat) : Int) - 1 = (n : Int) := by omega
    have w : wrap64 ((n : Int) - 1) = (n : Int) - 1 := by unfold wrap64; omega
    have w1 : wrap64 ((n : Int) + 1) = ((n + 1 : Nat) : Int) := wr n (by omega)
    have r := trimRd l n (by omega)
    rw [e]
    refine Ev.step (fun k => by rw [semantic_removeZeros.l0, w, r, w1, mx_nat]) ?_
    refine ev_pos (by omega) (ev_pos (by omega) (ev_pos (by omega) ?_))
    unfold cutZ
    by_cases hz : (l.getD n ⟨#[]⟩).toList = [48]
    · rw [if_pos hz]
      exact ev_pos hz (rz_loop l hl n (by omega))
    · rw [if_neg hz]
      refine ev_neg hz (ev_pos (by omega) (ev_pos (by omega) ?_))
      rw [Int.toNat_natCast]
      exact Ev.now _
theorem rz_ev (l : List ByteArray) (hl : l.length < 8796093022207) : Ev (fun k => semantic_removeZeros.f k l) (trimZ l) := by
  have w : wrap64 ((l.length : Int) - 1) = (l.length : Int) - 1 := by unfold wrap64; omega
  unfold semantic_removeZeros.f
  rw [w]
  exact rz_loop l hl l.length (Nat.le_refl _)
/-- A version's pieces between points. -/
def pieces (s : ByteArray) : List ByteArray := (Cut.cutAt 46 (canonS s)).map bs
/-- A version's segments. -/
def rubySegs (s : ByteArray) : List ByteArray := trimZ ((pieces s).takeWhile isNum) ++ trimZ ((pieces s).dropWhile isNum)
theorem pieces_small (s : ByteArray) (hs : s.size ≤ 1500) : (pieces s).length ≤ 7501 ∧ ∀ x ∈ pieces s, x.size ≤ 7500 := by
  have c := canonS_len s
  obtain ⟨a, b⟩ := Cut.cutAt_sizes 46 (canonS s)
  refine ⟨by unfold pieces; rw [List.length_map]; omega, fun x h => ?_⟩
  obtain ⟨y, hy, rfl⟩ := List.mem_map.1 h
  rw [bs_size]
  have := b y hy
  omega
theorem pieces_fit (s : ByteArray) (hs : s.size ≤ 1500) : fit (pieces s) = true := by
  obtain ⟨a, b⟩ := pieces_small s hs
  unfold fit
  rw [Bool.and_eq_true, List.all_eq_true]
  exact ⟨decide_eq_true (by omega), fun x hx => decide_eq_true (by have := b x hx; omega)⟩
theorem segs_mem {s x : ByteArray} (h : x ∈ rubySegs s) : x ∈ pieces s := by
  rcases List.mem_append.1 h with h | h
  · exact List.Sublist.subset (List.takeWhile_sublist _) (trimZ_mem h)
  · exact List.Sublist.subset (List.dropWhile_sublist _) (trimZ_mem h)
theorem segs_len (s : ByteArray) : (rubySegs s).length ≤ 2 * (pieces s).length := by
  unfold rubySegs
  rw [List.length_append]
  have a := trimZ_len ((pieces s).takeWhile isNum)
  have b := trimZ_len ((pieces s).dropWhile isNum)
  have c := List.Sublist.length_le (List.takeWhile_sublist isNum (l := pieces s))
  have d := List.Sublist.length_le (List.dropWhile_sublist isNum (l := pieces s))
  omega
theorem segs_fit (s : ByteArray) (hs : s.size ≤ 1500) : fit (rubySegs s) = true := by
  obtain ⟨a, b⟩ := pieces_small s hs
  have c := segs_len s
  unfold fit
  rw [Bool.and_eq_true, List.all_eq_true]
  exact ⟨decide_eq_true (by omega), fun x hx => decide_eq_true (by have := b x (segs_mem hx); omega)⟩
theorem rubyParse_ev (s : ByteArray) (hs : s.size ≤ 1500) : Ev (fun k => semantic_ParseRubyGemsVersion.f k s) (s, rubySegs s) := by
  have c := canonS_len s
  obtain ⟨pl, pm⟩ := pieces_small s hs
  have sp := split_ev 46 (canonS s) (by omega)
  have e1 : Giv.semantic_canonicalizeRubyGemVersion.f s = some ⟨(canonS s).toArray⟩ := by
    unfold Giv.semantic_canonicalizeRubyGemVersion.f
    rw [if_pos (by omega)]
  have e2 : Giv.semantic_groupSegments.f (pieces s) = some ((pieces s).takeWhile isNum, (pieces s).dropWhile isNum) := by
    unfold Giv.semantic_groupSegments.f
    rw [if_pos (pieces_fit s hs)]
  have c1 := List.Sublist.length_le (List.takeWhile_sublist isNum (l := pieces s))
  have c2 := List.Sublist.length_le (List.dropWhile_sublist isNum (l := pieces s))
  unfold semantic_ParseRubyGemsVersion.f
  rw [e1]
  refine ev_some ?_
  rw [sp_one]
  have cs : Ev (fun k => semantic_canonicalSegments.f k (pieces s)) (rubySegs s) := by
    unfold semantic_canonicalSegments.f
    rw [e2]
    refine ev_some ((rz_ev ((pieces s).takeWhile isNum) (by omega)).bind ((rz_ev ((pieces s).dropWhile isNum) (by omega)).bind (ev_pos ?_ (Ev.now _))))
    have a := trimZ_len ((pieces s).takeWhile isNum)
    have b := trimZ_len ((pieces s).dropWhile isNum)
    omega
  exact sp.bind (cs.bind (Ev.now _))
theorem rubyCompare_ev (a b : ByteArray) (ha : a.size ≤ 1500) (hb : b.size ≤ 1500) : semantic_RubyGemsVersion_compare.f a (rubySegs a) b (rubySegs b) = some (padL Seg.segC [48] (tl (rubySegs a)) (tl (rubySegs b))) := by
  unfold semantic_RubyGemsVersion_compare.f Giv.semantic_compareRubyGemsComponents.f
  rw [if_pos ⟨segs_fit a ha, segs_fit b hb⟩]
  rfl
end Go.Proofs.YtnbpoplomdocjaaGreatDoor.QR
