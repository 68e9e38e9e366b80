/- 'zzIndex', 'zzCut' at a text of one byte.
   What stands behind the first plus sign of a version of Pub, compared as texts.
   Contracts by hand: versions of Pub out of texts, compared. Printed by wip/tool/gensm.py.
   impl.PubCompareText as a function that is told: texts of bytes below 128, of at most three numbers; spec.lower, which no walk here reaches. -/
import Derived.Test.YtdliagehkiihpaaGreatDoorZD
import Derived.Test.YtdliagehkiihpaaGreatDoorQCx
import Derived.Test.YtdliagehkiihpaaGreatDoorZBL
import Derived.Test.YtdliagehkiihpaaGreatDoorShelf
namespace Go.Proofs.YtdliagehkiihpaaGreatDoor.QC
open Go.RowKit Go.Proofs.YtdliagehkiihpaaGreatDoorW.PrintWords Go.Proofs.YtdliagehkiihpaaGreatDoorW.PrintLast Go.Proofs.YtdliagehkiihpaaGreatDoor.Pk Go.Proofs.YtdliagehkiihpaaGreatDoor.Giv
set_option linter.unusedVariables false

theorem one_size (c : UInt8) : (⟨#[c]⟩ : ByteArray).size = 1 := rfl
theorem one_toList (c : UInt8) : (⟨#[c]⟩ : ByteArray).toList = [c] := by rw [toList_eq']
theorem zzIndex_loop (s : ByteArray) (c : UInt8) (hs : s.size < 4611686018427387904) (d : Nat) : ∀ i : Nat, i + d = s.size → (s.toList.take i).any (fun x => x == c) = false → Ev (fun k => semantic_zzIndex.l0 k s ⟨#[c]⟩ (i : Int)) (placeOf (fun x => x == c) s.toList) := by
  induction d with
  | zero =>
    intro i hi hno
    have w := wr i (by omega)
    refine Ev.step (fun k => by rw [semantic_zzIndex.l0, one_size]) ?_
    have w' : wrap64 ((i : Int) + ((1 : Nat) : Int)) = ((i + 1 : Nat) : Int) := w
    rw [w']
    refine ev_neg (by omega) ?_
    rw [List.take_of_length_le (by rw [len_toList]; omega)] at hno
    have e : placeOf (fun x => x == c) s.toList = -1 := by
      unfold placeOf
      rw [hno]
      rfl
    rw [e]
    exact Ev.now _
  | succ d ih =>
    intro i hi hno
    have hlt : i < s.size := by omega
    have w := wr i (by omega)
    have w' : wrap64 ((i : Int) + ((1 : Nat) : Int)) = ((i + 1 : Nat) : Int) := w
    refine Ev.step (fun k => by rw [semantic_zzIndex.l0, one_size]) ?_
    rw [w', w]
    refine ev_pos (by omega) (ev_pos (by omega) (ev_pos (by omega) ?_))
    have hx : (s.extract ((i : Int)).toNat (((i + 1 : Nat) : Int)).toNat).toList = [s[i]'hlt] := by
      rw [Int.toNat_natCast, Int.toNat_natCast, ext_toList, drop_at s i hlt, show i + 1 - i = 1 by omega]
      rfl
    rw [hx, one_toList]
    by_cases h : (s[i]'hlt) = c
    · refine ev_pos (by rw [h]) ?_
      rw [placeOf_step _ s.toList i (by rw [len_toList]; exact hlt) hno (by rw [getElem_toList s i hlt, h]; simp)]
      exact Ev.now _
    · refine ev_neg (fun e => h (List.cons.inj e).1) ?_
      refine ih (i + 1) (by omega) ?_
      rw [take_next' s i hlt, List.any_append, hno]
      simpa using h
theorem zzIndex_ev (s : ByteArray) (c : UInt8) (hs : s.size < 4611686018427387904) : Ev (fun k => semantic_zzIndex.f k s ⟨#[c]⟩) (placeOf (fun x => x == c) s.toList) := zzIndex_loop s c hs s.size 0 (by omega) (by simp)
theorem zzCut_no (s : ByteArray) (c : UInt8) (hs : s.size < 4611686018427387904) (h : placeOf (fun x => x == c) s.toList = -1) : Ev (fun k => semantic_zzCut.f k s ⟨#[c]⟩) (s, ⟨#[]⟩, false) := by
  have e := zzIndex_ev s c hs
  rw [h] at e
  refine e.bind ?_
  exact ev_neg (by omega) (Ev.now _)
theorem zzCut_yes (s : ByteArray) (c : UInt8) (hs : s.size < 4611686018427387904) (i : Nat) (hi : i < s.size) (h : placeOf (fun x => x == c) s.toList = i) : Ev (fun k => semantic_zzCut.f k s ⟨#[c]⟩) (s.extract 0 i, s.extract (i + 1) s.size, true) := by
  have e := zzIndex_ev s c hs
  rw [h] at e
  refine e.bind ?_
  have w : wrap64 ((i : Int) + ((⟨#[c]⟩ : ByteArray).size : Int)) = ((i + 1 : Nat) : Int) := wr i (by omega)
  rw [w]
  refine ev_pos (by omega) (ev_pos (by omega) (ev_pos (by omega) (ev_pos (by omega) (ev_pos (by omega) ?_))))
  rw [Int.toNat_natCast, Int.toNat_natCast]
  exact Ev.now _
end Go.Proofs.YtdliagehkiihpaaGreatDoor.QC

namespace Go.Proofs.YtdliagehkiihpaaGreatDoor.Giv
open Go.RowKit Go.Proofs.YtdliagehkiihpaaGreatDoorW.PrintWords Go.Proofs.YtdliagehkiihpaaGreatDoorW.PrintLast Go.Proofs.YtdliagehkiihpaaGreatDoor.Pk Go.Proofs.YtdliagehkiihpaaGreatDoor.Ord Go.Proofs.YtdliagehkiihpaaGreatDoor.QC
set_option linter.unusedVariables false
set_option linter.unusedSimpArgs false
/-- What stands behind the first plus sign. -/
def meta43 (l : List UInt8) : List UInt8 := if l.any (fun x => x == 43) = true then l.drop ((Cut.upTo 43 l).length + 1) else []
/-- Two versions compared: by their numbers, then by what stands behind them, then by what stands behind the plus sign. -/
def pbC (zs ys : List Int) (a b : List UInt8) : Int := if padL cI 0 zs ys = 0 then (if Cut.buildC a b = 0 then cS (meta43 a) (meta43 b) else Cut.buildC a b) else padL cI 0 zs ys
theorem place_up (c : UInt8) (l : List UInt8) (h : (l.any (fun x => x == c)) = true) : placeOf (fun x => x == c) l = ((Cut.upTo c l).length : Int) := by
  unfold placeOf
  rw [if_pos h]
  congr 1
  induction l with
  | nil => simp at h
  | cons x r ih =>
    unfold Cut.upTo
    rw [List.findIdx_cons]
    by_cases hx : x = c
    · rw [List.takeWhile_cons_of_neg (by simp [hx])]
      simp [hx]
    · rw [List.takeWhile_cons_of_pos (by simp [hx])]
      rw [List.any_cons] at h
      have hr : (r.any fun x => x == c) = true := by simpa [hx] using h
      have := ih hr
      unfold Cut.upTo at this
      have e : (x == c) = false := by simp [hx]
      rw [e]
      simp only [cond_false, List.length_cons]
      rw [this]
theorem cut43_calls (b : ByteArray) (w : World) (hb : b.size ≤ 40000) :
    Calls Tryz.prog 75 #[.string b, .string ⟨#[43]⟩] w fun e w' => ∃ (x : ByteArray) (f : Bool), e = .returned (.tuple #[.string x, .string (bs (meta43 b.toList)), .bool f]) ∧ Below w.heap.size w w' := by
  have : ∃ (x : ByteArray) (f : Bool), Ev (fun k => semantic_zzCut.f k b ⟨#[43]⟩) (x, bs (meta43 b.toList), f) := by
    unfold meta43
    cases h : b.toList.any (fun x => x == 43) with
    | false =>
      refine ⟨b, false, ?_⟩
      have e : placeOf (fun x => x == (43 : UInt8)) b.toList = -1 := by
        unfold placeOf
        rw [h]
        rfl
      exact zzCut_no b 43 (by omega) e
    | true =>
      have e := place_up 43 b.toList h
      obtain ⟨_, h2, _⟩ := Cut.cutAt_yes 43 b.toList h
      rw [len_toList] at h2
      have z := zzCut_yes b 43 (by omega) _ h2 e
      have e2 : b.extract ((Cut.upTo 43 b.toList).length + 1) b.size = bs (b.toList.drop ((Cut.upTo 43 b.toList).length + 1)) := bs_eq (ext_all _ _)
      rw [e2] at z
      exact ⟨_, true, z⟩
  obtain ⟨x, f, h⟩ := this
  obtain ⟨k, hk⟩ := h.rounds
  exact (semantic_zzCut.calls k b ⟨#[43]⟩ _ _ _ w hk).mono (fun e w' h => ⟨x, f, h.1, h.2.below⟩)
theorem cmpS_calls (a b : ByteArray) (w : World) : Calls Tryz.prog 72 #[.string a, .string b] w fun e w' => e = .returned (.int .i64 (cS a.toList b.toList)) ∧ w = w' :=
  (Tryz.strings_Compare a b w).mono fun e w' ⟨he, hw⟩ => ⟨by rw [he, toList_eq', toList_eq', compare_cS], hw.symm⟩
end Go.Proofs.YtdliagehkiihpaaGreatDoor.Giv

namespace Go.Proofs.YtdliagehkiihpaaGreatDoor.Giv
open Go.RowKit Go.Proofs.YtdliagehkiihpaaGreatDoorW.PrintWords Go.Proofs.YtdliagehkiihpaaGreatDoorW.PrintLast Go.Proofs.YtdliagehkiihpaaGreatDoor.Pk Go.Proofs.YtdliagehkiihpaaGreatDoor.Ord
set_option linter.unusedVariables false
set_option linter.unusedSimpArgs false

set_option maxRecDepth 100000 in
set_option maxHeartbeats 4000000 in
theorem pbParse_calls (s : ByteArray) (w : World) (h : TextOk s) (hL : Laid w) :
    Calls Tryz.prog 31 #[.string s] w fun e w' => ∃ (A : Option Addr) (n c : Nat), e = .returned (.agg #[.bool (Slk.lead s.toList), .slice A n c, .string (bs (Slk.parse s.toList).2), .string s]) ∧ BOwn w' w.heap.size (.slice A n c) (Slk.parse s.toList).1 ∧ Below w.heap.size w w' := by
  have al := below_alloc (Below.refl w.heap.size w) (Obj.cells #[Value.bool false, .slice none 0 0, .string ⟨#[]⟩, .string ⟨#[]⟩] 56)
  have AL := Aside0.mk al
  have K0 := Aside0.mk (blk_new w (Obj.cells #[Value.bool false, .slice none 0 0, .string ⟨#[]⟩, .string ⟨#[]⟩] 56))
  have pl := snLike_calls s _ h (hL.below al)
  clear al h hL
  generalize Slk.lead s.toList = lv at *
  generalize Slk.parse s.toList = full at *
  go_enter Tryz.func31, Tryz.ntmps31
  go_wp2_with (first | (go_at_call 48; (with_reducible refine pl.mono ?_); rintro e w1 ⟨A, n, c, rfl, ho, d1⟩; have HO := Aside0.mk (BOwn.lower ho AL.out.size); have D1 := Aside0.mk (below_then AL.out AL.out.size d1); have k1 := (d1.block _ (blk_lt K0.out)).trans K0.out; have K1 := Aside0.mk k1; have p0 := blk_cell k1 0; have p1 := blk_cell k1 1; have p2 := blk_cell k1 2; have p3 := blk_cell k1 3; have f0 := Lib.frozen_of_heap k1 0; have f1 := Lib.frozen_of_heap k1 1; have f2 := Lib.frozen_of_heap k1 2; have f3 := Lib.frozen_of_heap k1 3; clear ho d1 k1))
  have M3 := Aside0.mk (sx_put4 K1.out (.bool lv) (.slice A n c) (.string (bs full.2)) (.string s))
  refine bodyPost_ret (results_cell_row rfl _ _ w.heap.size 56 #[.bool lv, .slice A n c, .string (bs full.2), .string s] (0, 0) _ rfl M3.out Tryz.underlying56 rfl (by kernel_rfl)) rfl ?_
  exact ⟨A, n, c, rfl, BOwn.sx4 HO.out K1.out (by decide) (by decide) _ _ _ _, below_set (below_set (below_set (below_set D1.out (Nat.le_refl _)) (Nat.le_refl _)) (Nat.le_refl _)) (Nat.le_refl _)⟩
set_option maxRecDepth 100000 in
set_option maxHeartbeats 4000000 in
theorem pbCompare_calls (lv0 lv1 : Bool) (A0 A1 : Option Addr) (n0 c0 n1 c1 : Nat) (zs ys : List Int) (b0 o0 b1 o1 : ByteArray) (w : World) (e0 : n0 = zs.length) (e1 : n1 = ys.length) (h0 : BRow w A0 zs) (h1 : BRow w A1 ys) (l0 : zs.length ≤ 100000) (l1 : ys.length ≤ 100000) (s0 : b0.size ≤ 40000) (s1 : b1.size ≤ 40000) (hL : Laid w) :
    Calls Tryz.prog 55 #[.agg #[.bool lv0, .slice A0 n0 c0, .string b0, .string o0], .agg #[.bool lv1, .slice A1 n1 c1, .string b1, .string o1]] w fun e w' => e = .returned (.int .i64 (pbC zs ys b0.toList b1.toList)) ∧ Below w.heap.size w w' := by
  have x1 := below_alloc (Below.refl w.heap.size w) (Obj.cells #[Value.bool lv0, .slice A0 n0 c0, .string b0, .string o0] 56)
  have x2 := below_alloc x1 (Obj.cells #[Value.bool lv1, .slice A1 n1 c1, .string b1, .string o1] 56)
  have k1 : ((w.alloc (Obj.cells #[Value.bool lv0, .slice A0 n0 c0, .string b0, .string o0] 56)).alloc (Obj.cells #[Value.bool lv1, .slice A1 n1 c1, .string b1, .string o1] 56)).heap[w.heap.size]? = some (Obj.cells #[Value.bool lv0, .slice A0 n0 c0, .string b0, .string o0] 56) := blk_alloc (blk_new w _) _
  have m1 : ((w.alloc (Obj.cells #[Value.bool lv0, .slice A0 n0 c0, .string b0, .string o0] 56)).alloc (Obj.cells #[Value.bool lv1, .slice A1 n1 c1, .string b1, .string o1] 56)).heap[w.heap.size + 1]? = some (Obj.cells #[Value.bool lv1, .slice A1 n1 c1, .string b1, .string o1] 56) := by
    have := blk_new (w.alloc (Obj.cells #[Value.bool lv0, .slice A0 n0 c0, .string b0, .string o0] 56)) (Obj.cells #[Value.bool lv1, .slice A1 n1 c1, .string b1, .string o1] 56)
    simpa using this
  have p1 := blk_cell k1 1
  have q1 := blk_cell m1 1
  have cm : Calls Tryz.prog 68 #[.pointer (some ⟨w.heap.size, 1, none⟩), .slice A1 n1 c1] ((w.alloc (Obj.cells #[Value.bool lv0, .slice A0 n0 c0, .string b0, .string o0] 56)).alloc (Obj.cells #[Value.bool lv1, .slice A1 n1 c1, .string b1, .string o1] 56)) fun e w'' => e = .returned (.int .i64 (padL cI 0 zs ys)) ∧ Below ((w.alloc (Obj.cells #[Value.bool lv0, .slice A0 n0 c0, .string b0, .string o0] 56)).alloc (Obj.cells #[Value.bool lv1, .slice A1 n1 c1, .string b1, .string o1] 56)).heap.size ((w.alloc (Obj.cells #[Value.bool lv0, .slice A0 n0 c0, .string b0, .string o0] 56)).alloc (Obj.cells #[Value.bool lv1, .slice A1 n1 c1, .string b1, .string o1] 56)) w'' := by
    subst e0
    subst e1
    exact compCmp_calls w.heap.size 1 A0 A1 c0 c1 zs ys _ p1 (h0.below x2) (h1.below x2) (by omega) (by omega)
  have cb : ∀ w' : World, Below w.heap.size w w' → Calls Tryz.prog 69 #[.string b0, .string b1] w' fun e w'' => e = .returned (.int .i64 (Cut.buildC b0.toList b1.toList)) ∧ Below w'.heap.size w' w'' := fun w' d => snBuild_calls b0 b1 w' s0 s1 (hL.below d)
  have X2 := Aside0.mk x2
  have K1 := Aside0.mk k1
  have M1 := Aside0.mk m1
  have z0 : ∀ w' : World, Calls Tryz.prog 75 #[.string b0, .string ⟨#[43]⟩] w' fun e w'' => ∃ (x : ByteArray) (f : Bool), e = .returned (.tuple #[.string x, .string (bs (meta43 b0.toList)), .bool f]) ∧ Below w'.heap.size w' w'' := fun w' => cut43_calls b0 w' s0
  have z1 : ∀ w' : World, Calls Tryz.prog 75 #[.string b1, .string ⟨#[43]⟩] w' fun e w'' => ∃ (x : ByteArray) (f : Bool), e = .returned (.tuple #[.string x, .string (bs (meta43 b1.toList)), .bool f]) ∧ Below w'.heap.size w' w'' := fun w' => cut43_calls b1 w' s1
  have cs : ∀ w' : World, Calls Tryz.prog 72 #[.string (bs (meta43 b0.toList)), .string (bs (meta43 b1.toList))] w' fun e w'' => e = .returned (.int .i64 (cS (meta43 b0.toList) (meta43 b1.toList))) ∧ w' = w'' := fun w' => by
    have := cmpS_calls (bs (meta43 b0.toList)) (bs (meta43 b1.toList)) w'
    rwa [bs_toList, bs_toList] at this
  have CE := Aside0.mk (show pbC zs ys b0.toList b1.toList = if padL cI 0 zs ys = 0 then (if Cut.buildC b0.toList b1.toList = 0 then cS (meta43 b0.toList) (meta43 b1.toList) else Cut.buildC b0.toList b1.toList) else padL cI 0 zs ys from rfl)
  clear x1 x2 k1 m1 h0 h1 l0 l1 s0 s1 hL e0 e1
  generalize padL cI 0 zs ys = c at *
  generalize Cut.buildC b0.toList b1.toList = bc at *
  generalize pbC zs ys b0.toList b1.toList = r at *
  generalize cS (meta43 b0.toList) (meta43 b1.toList) = sc at *
  generalize bs (meta43 b0.toList) = y0 at *
  generalize bs (meta43 b1.toList) = y1 at *
  by_cases hc : c = 0
  · subst hc
    by_cases hb : bc = 0
    · subst hb
      have RV := Aside0.mk (show r = sc by rw [CE.out, if_pos rfl, if_pos rfl])
      clear CE
      go_enter Tryz.func55, Tryz.ntmps55
      go_wp2_with (first | (go_at_call 68; (with_reducible refine cm.mono ?_); rintro e w1 ⟨rfl, d1⟩; have D1 := Aside0.mk (below_then X2.out X2.out.size d1); have K2 := Aside0.mk ((d1.block _ (blk_lt K1.out)).trans K1.out); have M2 := Aside0.mk ((d1.block _ (blk_lt M1.out)).trans M1.out); have r2 := blk_cell K2.out 2; have s2 := blk_cell M2.out 2; clear d1) | (go_at_call 69; (with_reducible refine (cb _ D1.out).mono ?_); rintro e w4 ⟨rfl, d4⟩; have D4 := Aside0.mk (below_then D1.out D1.out.size d4); have r4 := blk_cell ((d4.block _ (blk_lt K2.out)).trans K2.out) 2; have M4 := Aside0.mk ((d4.block _ (blk_lt M2.out)).trans M2.out); clear d4) | (go_at_call 75; (with_reducible refine (z0 _).mono ?_); rintro e w5 ⟨xa, fa, rfl, d5⟩; have D5 := Aside0.mk (below_then D4.out D4.out.size d5); have s5 := blk_cell ((d5.block _ (blk_lt M4.out)).trans M4.out) 2; clear d5) | (go_at_call 75; (with_reducible refine (z1 _).mono ?_); rintro e w6 ⟨xb, fb, rfl, d6⟩; have D6 := Aside0.mk (below_then D5.out D5.out.size d6); clear d6) | (go_at_call 72; (with_reducible refine (cs _).mono ?_); rintro e w7 ⟨rfl, rfl⟩))
      go_ret
      exact ⟨by rw [RV.out]; rfl, D6.out⟩
    · have RV := Aside0.mk (show r = bc by rw [CE.out, if_pos rfl, if_neg hb])
      have nz : (bc != 0) = true := bne_iff_ne.2 hb
      clear CE hb
      go_enter Tryz.func55, Tryz.ntmps55
      go_wp2_with (first | (go_at_call 68; (with_reducible refine cm.mono ?_); rintro e w1 ⟨rfl, d1⟩; have D1 := Aside0.mk (below_then X2.out X2.out.size d1); have K2 := Aside0.mk ((d1.block _ (blk_lt K1.out)).trans K1.out); have M2 := Aside0.mk ((d1.block _ (blk_lt M1.out)).trans M1.out); have r2 := blk_cell K2.out 2; have s2 := blk_cell M2.out 2; clear d1) | (go_at_call 69; (with_reducible refine (cb _ D1.out).mono ?_); rintro e w4 ⟨rfl, d4⟩; have D4 := Aside0.mk (below_then D1.out D1.out.size d4); have r4 := blk_cell ((d4.block _ (blk_lt K2.out)).trans K2.out) 2; have M4 := Aside0.mk ((d4.block _ (blk_lt M2.out)).trans M2.out); clear d4))
      go_ret
      exact ⟨by rw [RV.out]; rfl, D4.out⟩
  · have RV := Aside0.mk (show r = c by rw [CE.out, if_neg hc])
    have nz : (c != 0) = true := bne_iff_ne.2 hc
    clear CE hc
    go_enter Tryz.func55, Tryz.ntmps55
    go_wp2_with (first | (go_at_call 68; (with_reducible refine cm.mono ?_); rintro e w1 ⟨rfl, d1⟩; have D1 := Aside0.mk (below_then X2.out X2.out.size d1); clear d1))
    go_ret
    exact ⟨by rw [RV.out]; rfl, D1.out⟩
set_option maxRecDepth 100000 in
set_option maxHeartbeats 4000000 in
theorem pbStr_calls (lv0 : Bool) (A0 : Option Addr) (n0 c0 : Nat) (zs : List Int) (b0 o0 t : ByteArray) (w : World) (e0 : n0 = zs.length) (h0 : BRow w A0 zs) (l0 : zs.length ≤ 100000) (s0 : b0.size ≤ 40000) (ht : TextOk t) (hL : Laid w) :
    Calls Tryz.prog 32 #[.agg #[.bool lv0, .slice A0 n0 c0, .string b0, .string o0], .string t] w fun e w' => e = .returned (.tuple #[.int .i64 (pbC zs (Slk.parse t.toList).1 b0.toList (Slk.parse t.toList).2), .nilIface]) ∧ Below w.heap.size w w' := by
  have x1 := below_alloc (Below.refl w.heap.size w) (Obj.cells #[Value.bool lv0, .slice A0 n0 c0, .string b0, .string o0] 56)
  have k1 := blk_new w (Obj.cells #[Value.bool lv0, .slice A0 n0 c0, .string b0, .string o0] 56)
  have pp : ∀ w' : World, Below w.heap.size w w' → _ := fun w' d => pbParse_calls t w' ht (hL.below d)
  have cp : ∀ (A1 : Option Addr) (n1 c1 : Nat) (w' : World), Below w.heap.size w w' → BOwn w' w.heap.size (.slice A1 n1 c1) (Slk.parse t.toList).1 → Calls Tryz.prog 55 #[.agg #[.bool lv0, .slice A0 n0 c0, .string b0, .string o0], .agg #[.bool (Slk.lead t.toList), .slice A1 n1 c1, .string (bs (Slk.parse t.toList).2), .string t]] w' fun e w'' => e = .returned (.int .i64 (pbC zs (Slk.parse t.toList).1 b0.toList (Slk.parse t.toList).2)) ∧ Below w'.heap.size w' w'' := fun A1 n1 c1 w' d g1 => by
    obtain ⟨_, _, x1, _, r1⟩ := g1.slice
    injection x1 with y1 z1 _
    subst y1
    have := pbCompare_calls lv0 (Slk.lead t.toList) A0 A1 n0 c0 n1 c1 zs (Slk.parse t.toList).1 b0 o0 (bs (Slk.parse t.toList).2) t w' e0 z1 (h0.below d) r1 l0 (Nat.le_trans ht.few (by decide)) s0 ht.tail (hL.below d)
    rwa [bs_toList] at this
  have B1 := Aside0.mk x1
  have K0 := Aside0.mk k1
  clear x1 k1 h0 l0 s0 e0 hL ht
  generalize pbC zs (Slk.parse t.toList).1 b0.toList (Slk.parse t.toList).2 = r at *
  generalize Slk.lead t.toList = lv1 at *
  generalize Slk.parse t.toList = full at *
  go_enter Tryz.func32, Tryz.ntmps32
  go_wp2_with (first | (go_at_call 31; (with_reducible refine (pp _ B1.out).mono ?_); rintro e w1 ⟨A1, n1, c1, rfl, r1, g1⟩; have HE1 := Aside0.mk (below_then B1.out B1.out.size g1); have R1 := Aside0.mk (r1.lower B1.out.size); have k1 := (g1.block _ (blk_lt K0.out)).trans K0.out; have k2 := blk_alloc k1 (Obj.cells #[Value.bool lv1, .slice A1 n1 c1, .string (bs full.2), .string t] 56); have p0 := blk_cell k2 0; have p1 := blk_cell k2 1; have p2 := blk_cell k2 2; have p3 := blk_cell k2 3; have m := blk_new w1 (Obj.cells #[Value.bool lv1, .slice A1 n1 c1, .string (bs full.2), .string t] 56); have q0 := blk_cell m 0; have q1 := blk_cell m 1; have q2 := blk_cell m 2; have q3 := blk_cell m 3; clear r1 g1 k1 k2 m) | (go_at_call 55; (with_reducible refine (cp A1 n1 c1 _ (below_alloc HE1.out (Obj.cells #[Value.bool lv1, .slice A1 n1 c1, .string (bs full.2), .string t] 56)) (R1.out.below (below_alloc (Below.refl _ _) (Obj.cells #[Value.bool lv1, .slice A1 n1 c1, .string (bs full.2), .string t] 56)))).mono ?_); rintro e w2 ⟨rfl, g2⟩; have HE2 := Aside0.mk (below_then (below_alloc HE1.out (Obj.cells #[Value.bool lv1, .slice A1 n1 c1, .string (bs full.2), .string t] 56)) (below_alloc HE1.out (Obj.cells #[Value.bool lv1, .slice A1 n1 c1, .string (bs full.2), .string t] 56)).size g2); clear g2))
  go_ret2
  exact ⟨rfl, HE2.out⟩
set_option maxRecDepth 100000 in
set_option maxHeartbeats 4000000 in
theorem pbText_calls (a b : ByteArray) (w : World) (ha : TextOk a) (hb : TextOk b) (hL : Laid w) :
    Calls Tryz.prog 15 #[.string a, .string b] w fun e w' => e = .returned (.tuple #[.int .i64 (pbC (Slk.parse a.toList).1 (Slk.parse b.toList).1 (Slk.parse a.toList).2 (Slk.parse b.toList).2), .bool true]) ∧ Below w.heap.size w w' := by
  have pa := pbParse_calls a w ha hL
  have cs : ∀ (A1 : Option Addr) (n1 c1 : Nat) (w' : World), Below w.heap.size w w' → BOwn w' w.heap.size (.slice A1 n1 c1) (Slk.parse a.toList).1 → Calls Tryz.prog 32 #[.agg #[.bool (Slk.lead a.toList), .slice A1 n1 c1, .string (bs (Slk.parse a.toList).2), .string a], .string b] w' fun e w'' => e = .returned (.tuple #[.int .i64 (pbC (Slk.parse a.toList).1 (Slk.parse b.toList).1 (Slk.parse a.toList).2 (Slk.parse b.toList).2), .nilIface]) ∧ Below w'.heap.size w' w'' := fun A1 n1 c1 w' d g1 => by
    obtain ⟨_, _, x1, _, r1⟩ := g1.slice
    injection x1 with y1 z1 _
    subst y1
    have := pbStr_calls (Slk.lead a.toList) A1 n1 c1 (Slk.parse a.toList).1 (bs (Slk.parse a.toList).2) a b w' z1 r1 (Nat.le_trans ha.few (by decide)) ha.tail hb (hL.below d)
    rwa [bs_toList] at this
  have hnn := fun w => run_nil_nil Tryz.underlying41 w
  clear ha hb hL
  generalize pbC (Slk.parse a.toList).1 (Slk.parse b.toList).1 (Slk.parse a.toList).2 (Slk.parse b.toList).2 = r at *
  generalize Slk.lead a.toList = lv at *
  generalize Slk.parse a.toList = full at *
  go_enter Tryz.func15, Tryz.ntmps15
  go_wp2_with (first | (go_at_call 31; (with_reducible refine pa.mono ?_); rintro e w1 ⟨A1, n1, c1, rfl, r1, g1⟩; have R1 := Aside0.mk r1; have G1 := Aside0.mk g1; clear r1 g1) | (go_at_call 32; (with_reducible refine (cs _ _ _ _ G1.out R1.out).mono ?_); rintro e w2 ⟨rfl, g2⟩; have HE2 := below_then G1.out G1.out.size g2; clear g2))
  go_quiet (fail)
  go_wp2_with fail
  go_ret2
  exact ⟨rfl, bel_drewN HE2 _⟩
end Go.Proofs.YtdliagehkiihpaaGreatDoor.Giv

namespace Go.Proofs.YtdliagehkiihpaaGreatDoor.Giv
open Go.RowKit Go.Proofs.YtdliagehkiihpaaGreatDoorW.PrintWords Go.Proofs.YtdliagehkiihpaaGreatDoorW.PrintLast Go.Proofs.YtdliagehkiihpaaGreatDoor.Pk Go.Proofs.YtdliagehkiihpaaGreatDoor.Ord
set_option linter.unusedVariables false
set_option linter.unusedSimpArgs false
def pbT (a b : ByteArray) : Int := pbC (Slk.parse a.toList).1 (Slk.parse b.toList).1 (Slk.parse a.toList).2 (Slk.parse b.toList).2
def impl_PubCompareText.f (a0 a1 : ByteArray) : Option (Int × Bool) := if (okT a0 && okT a1) = true then some (pbT a0 a1, true) else none
theorem impl_PubCompareText.calls (a0 a1 : ByteArray) (r1 : Int) (r2 : Bool) (w : World) (h : impl_PubCompareText.f a0 a1 = some (r1, r2)) (hL : Laid w) :
    Calls Tryz.prog 15 #[.string a0, .string a1] w fun e w' => e = .returned (.tuple #[.int .i64 r1, .bool r2]) ∧ Below w.heap.size w w' := by
  unfold impl_PubCompareText.f at h
  split at h
  · next hc =>
    rw [Bool.and_eq_true] at hc
    obtain ⟨rfl, rfl⟩ := Prod.mk.inj (Option.some.inj h)
    exact pbText_calls a0 a1 w (okT_ok hc.1) (okT_ok hc.2) hL
  · exact absurd h (by simp)
end Go.Proofs.YtdliagehkiihpaaGreatDoor.Giv
