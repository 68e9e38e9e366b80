/- Contracts by hand: numbers as plain data.
   Contract by hand: versions like those of SemVer told as plain parts (told). Turned from the kit's print of impl.plainLike by wip/tool/gentd.py.
   Contract by hand: impl.LikeParse, whatever the text.
   Contract by hand: plain numbers as pointers to numbers (zzBigs).
   Plain numbers of the statements as the program's (impl.bigs).
   Contract by hand: versions like those of SemVer made of plain parts ((ZZLike).like). Turned from the kit's print of impl.like by wip/tool/genlk.py.
   Contracts by hand: versions of Semver made of plain parts, compared. Printed by wip/tool/genng.py.
   impl.LikeParse and impl.SemverCompare as functions that are told. -/
import Derived.Test.YtdliagehkiihpaaGreatDoorZV
import Derived.Test.YtdliagehkiihpaaGreatDoorQUx3p
import Derived.Outline
import Derived.Lib.SmallJoins
import Derived.Test.YtdliagehkiihpaaGreatDoorZY
import Derived.Test.YtdliagehkiihpaaGreatDoorQUx3p
import Derived.Test.YtdliagehkiihpaaGreatDoorZBL
namespace Go.Proofs.YtdliagehkiihpaaGreatDoor.Giv
open Go.RowKit Go.Proofs.YtdliagehkiihpaaGreatDoorW.PrintWords Go.Proofs.YtdliagehkiihpaaGreatDoorW.PrintLast Go.Proofs.YtdliagehkiihpaaGreatDoor.Pk Go.Proofs.YtdliagehkiihpaaGreatDoor.Ord
set_option linter.unusedVariables false
set_option linter.unusedSimpArgs false

/-- Numbers as plain data. -/
def pl (zs : List Int) : List QU.S109 := zs.map (fun z => ⟨decide (z < 0), bs (Lb.mag z.natAbs)⟩)
theorem pl_snoc (zs : List Int) (z : Int) : pl (zs ++ [z]) = pl zs ++ [⟨decide (z < 0), bs (Lb.mag z.natAbs)⟩] := by simp [pl]
theorem pl_len (zs : List Int) : (pl zs).length = zs.length := by simp [pl]
theorem pl_info : (Tryz.prog.info? 109).map (fun i => (i.zero, i.size, i.bytes)) = some (some (.agg #[(.bool false), (.string ⟨#[]⟩)]), 2, 24) := by kernel_rfl
set_option maxRecDepth 100000 in
set_option maxHeartbeats 4000000 in
theorem zzPlains_calls (A : Option Addr) (c : Nat) (zs : List Int) (w : World) (h : BRow w A zs) (hl : zs.length ≤ 100000) :
    Calls Tryz.prog 82 #[.slice A zs.length c] w fun e w' => ∃ v0_ : Value, e = .returned v0_ ∧ Kd.R QU.k109 109 w' w.heap.size (fun _ => True) v0_ (pl zs) ∧ Below w.heap.size w w' := by
  go_enter Tryz.func82, Tryz.ntmps82
  go_wp2_with fail
  go_loopw [3, 8] (fun v3 v8 wr => ∃ k : Nat, v8 = .int .i64 k ∧ k ≤ zs.length ∧ Kd.R QU.k109 109 wr w.heap.size (fun _ => True) v3 (pl (zs.take k)) ∧ Below w.heap.size w wr) (fun v3 v8 wr => zs.length - (intOf v8).toNat)
  case atStart => exact ⟨0, rfl, Nat.zero_le _, Kd.R_nil _ _ _ _ _, Below.refl _ _⟩
  case round =>
    obtain ⟨k, rfl, hk, ho, hb⟩ := hrel
    have HO := Aside0.mk ho
    have BL := Aside0.mk hb
    have BS := Aside0.mk hb.size
    by_cases hlt : k < zs.length
    · obtain ⟨ad, p, rfl, hc, hp⟩ := h.at_ k hlt
      have cx := pw_cell_below hb hc
      have f4 : (k : Int) < (zs.length : Int) := Int.ofNat_lt.2 hlt
      have KL := Aside0.mk hlt
      have LIM := Aside0.mk (show ((pl (zs.take k)).length + 1) * 24 ≤ 140737488355328 by rw [pl_len, List.length_take]; omega)
      have NX := Aside0.mk (show pl (zs.take k) ++ [⟨decide (zs[k] < 0), bs (Lb.mag zs[k].natAbs)⟩] = pl (zs.take (k + 1)) by rw [List.take_succ_eq_append_getElem hlt, pl_snoc])
      have wk : wrap64 ((k : Int) + 1) = ((k + 1 : Nat) : Int) := Pk.wr k (by omega)
      have pc := plain_calls _ p _ (hp.below hb)
      generalize zs[k]'hlt = z at *
      clear ho hb h hc hp hlt hk
      go_wp2_with (first | (go_at_call 97; (with_reducible refine pc.mono ?_); rintro e w1 ⟨rfl, d1⟩; have B1 := Aside0.mk (below_then BL.out BS.out d1); have BS1 := Aside0.mk (Nat.le_trans BS.out d1.size); have HO1 := Aside0.mk (Kd.R_below HO.out d1); clear d1) | ((with_reducible refine gate_builtin (b := .append) (xs := #[.tmp 12, .tmp 15]) rfl ?_); at_builtin; refine Kd.R_append QU.k109 (w0 := w) w.heap.size rfl (.tmp 12) (.tmp 15) 68 109 (.agg #[(.bool false), (.string ⟨#[]⟩)]) 24 rfl Tryz.underlying68 pl_info rfl (by decide) (by omega) u3 (pl (zs.take k)) (⟨decide (z < 0), bs (Lb.mag z.natAbs)⟩ : QU.S109) [.bool (decide (z < 0)), .string (bs (Lb.mag z.natAbs))] (fun _ => True) (fun _ => False) rfl (by first | (go_simp; done) | (go_simp; rfl)) ?aP (fun _ hk => hk.elim) ?aF ?aO ?aB ?aS ?aL ?_; (case aP => exact QU.k109_mkM _ _ _ (⟨decide (z < 0), bs (Lb.mag z.natAbs)⟩ : QU.S109)); (case aF => exact (fun _ _ => trivial)); (case aO => exact HO1.out); (case aB => exact B1.out); (case aS => exact BS1.out); (case aL => exact LIM.out); intro v5 w5 ho hb hg hat; have HO := Aside0.mk ho; have BL2 := Aside0.mk hb; clear ho hb hg hat))
      refine ⟨⟨k + 1, by simp, KL.out, by rw [← NX.out]; exact HO.out, BL2.out⟩, by simp only [intOf]; have := KL.out; omega⟩
    · have ek : k = zs.length := by omega
      have f4 : ¬ (k : Int) < (zs.length : Int) := by omega
      rw [ek, List.take_length] at ho
      have HO := Aside0.mk ho
      clear ho hb hk hlt ek
      go_wp2_with fail
      go_ret
      exact ⟨_, rfl, HO.out, BL.out⟩
/-- Numbers as the statements tell them. -/
def pn (zs : List Int) : List QU.S64 := zs.map (fun z => ⟨decide (z < 0), bs (Lb.mag z.natAbs)⟩)
theorem plains_ev (zs : List Int) (hl : zs.length ≤ 100000) (d : Nat) : ∀ i : Nat, i + d = zs.length → Ev (fun k => QU.impl_plains.l0 k (pn (zs.take i)) (pl zs) ((pl zs).length : Int) (i : Int)) (pn zs) := by
  induction d with
  | zero =>
    intro i hi
    refine Ev.step (fun k => by rw [QU.impl_plains.l0]) ?_
    rw [pl_len, List.take_of_length_le (by omega)]
    refine ev_neg (by omega) ?_
    exact Ev.now _
  | succ d ih =>
    intro i hi
    have hlt : i < zs.length := by omega
    have w := wr i (by omega)
    have e : QU.rd_T109 (pl zs) (i : Int) = ⟨decide ((zs[i]'hlt) < 0), bs (Lb.mag (zs[i]'hlt).natAbs)⟩ := by
      unfold QU.rd_T109 pl
      rw [Int.toNat_natCast, List.getD_eq_getElem?_getD, List.getElem?_map, List.getElem?_eq_getElem hlt]
      rfl
    have nx := ih (i + 1) (by omega)
    refine Ev.step (fun k => by rw [QU.impl_plains.l0, w, e]) ?_
    rw [pl_len] at nx ⊢
    refine ev_pos (by omega) (ev_pos (by omega) (ev_pos (by omega) (ev_pos (by unfold pn; rw [List.length_map, List.length_take]; omega) ?_)))
    rw [List.take_succ_eq_append_getElem hlt] at nx
    unfold pn at nx ⊢
    rw [List.map_append] at nx
    exact nx
theorem plains_all (zs : List Int) (hl : zs.length ≤ 100000) : ∃ k, QU.impl_plains.f k (pl zs) = some (pn zs) := Ev.rounds (plains_ev zs hl _ 0 (Nat.zero_add _))
end Go.Proofs.YtdliagehkiihpaaGreatDoor.Giv

namespace Go.Proofs.YtdliagehkiihpaaGreatDoor.Giv
open Go.RowKit Go.Proofs.YtdliagehkiihpaaGreatDoorW.PrintWords Go.Proofs.YtdliagehkiihpaaGreatDoorW.PrintLast Go.Proofs.YtdliagehkiihpaaGreatDoor.Pk Go.Proofs.YtdliagehkiihpaaGreatDoor.Ord Go.Proofs.YtdliagehkiihpaaGreatDoor.QU
set_option linter.unusedVariables false
set_option linter.unusedSimpArgs false

def told_T1 : Bool × List (List Nat × List Nat) := (true, [([], []), ([0], [0]), ([], []), ([2], [2]), ([3], [3]), ([], []), ([5], [5]), ([], []), ([7], [7]), ([1, 4, 6, 8], [1, 4, 6, 8]), ([9, 4, 0, 1, 2, 3, 4, 5, 6, 7, 8, 9], [9])])
def told_B1 : List Nat := [0, 1, 0, 4, 12, 0, 32, 0, 128, 511, 1023]
theorem told_tab1 : rtab .any (opsOf Tryz.f65 1) = told_T1 := by kernel_rfl
theorem told_bits1 : waitsOk told_T1.2 told_B1 = true := by kernel_rfl
set_option maxHeartbeats 8000000 in
set_option maxRecDepth 100000 in
theorem told_calls (a0_0 : Bool) (A0_1 : Option Addr) (n c0_1 : Nat) (l0_1 : List Int) (a0_2 a0_3 : ByteArray) (w : World) (hn : n = l0_1.length) (hr0_1 : BRow w A0_1 l0_1) (hl : l0_1.length ≤ 100000) :
    Calls Tryz.prog 65 #[.agg #[.bool a0_0, .slice A0_1 n c0_1, .string a0_2, .string a0_3]] w fun e w' => ∃ v1_ : Value, e = .returned (.agg #[.bool a0_0, v1_, .string a0_2, .string a0_3]) ∧ Kd.R k109 109 w' w.heap.size (fun _ => True) v1_ (pl l0_1) ∧ Below w.heap.size w w' := by
  subst hn
  have huA := Tryz.underlying46
  have huB := Tryz.underlying70
  have HR0_1 := Aside0.mk hr0_1
  have ZP := Aside0.mk (fun (w' : World) (d : Below w.heap.size w w') => zzPlains_calls A0_1 c0_1 l0_1 w' (HR0_1.out.below d) hl)
  clear hr0_1 hl
  have HB := Aside0.mk (Below.refl w.heap.size w)
  go_enter Tryz.func65, Tryz.ntmps65
  try go_wp2_with (first | ((with_reducible refine gate_dst (N := 1) rfl ?_); refine box_event ?hg (N := 1) ?hd (cs := #[.bool a0_0, .slice A0_1 l0_1.length c0_1, .string a0_2, .string a0_3]) (t := 46) ?hr ?_; (case hd => rfl); (case hg => rfl); (case hr => first | (go_simp; done) | (go_simp; rfl)); intro gb106 hg w3 hbox hb; have n0_ := Aside0.mk (below_step (by repeat (first | (with_reducible first | exact HB.out | apply below_alloc | apply pw_below_drewN | apply below_drew1) | exact HB.out)) hb); have n1_ := Aside0.mk (hbox); have n2_ := Aside0.mk ((by rw [hg]; exact (below_size (by repeat (first | (with_reducible first | exact HB.out | apply below_alloc | apply pw_below_drewN | apply below_drew1) | exact HB.out))) : w.heap.size ≤ gb106)); have n3_ := Aside0.mk ((by rw [hg]; exact (below_size (by repeat (first | (with_reducible first | exact HB.out | apply below_alloc | apply pw_below_drewN | apply below_drew1) | exact HB.out))) : w.heap.size ≤ gb106)); clear HB; have HB := n0_; have BK106 := n1_; have GW106 := n2_; have GE106 := n3_; clear n0_ n1_ n2_ n3_; clear hb hbox hg) | ((with_reducible refine gate_dst (N := 2) rfl ?_); refine box_event ?hg (N := 2) ?hd (cs := #[.bool false, .slice none 0 0, .string (⟨#[]⟩ : ByteArray), .string (⟨#[]⟩ : ByteArray)]) (t := 70) ?hr ?_; (case hd => rfl); (case hg => rfl); (case hr => first | (go_simp; done) | (go_simp; rfl)); intro gb107 hg w4 hbox hb; have n0_ := Aside0.mk (blk_below (g := gb106) (o := .cells #[.bool a0_0, .slice A0_1 l0_1.length c0_1, .string a0_2, .string a0_3] 46 (0, 0)) (by (with_reducible repeat (first | refine blk_drewN ?_ _ | refine blk_drew ?_ | refine blk_alloc ?_ _)); exact BK106.out) hb); have n1_ := Aside0.mk (below_step (by repeat (first | (with_reducible first | exact HB.out | apply below_alloc | apply pw_below_drewN | apply below_drew1 | refine below_set ?_ GE106.out) | exact HB.out)) hb); have n2_ := Aside0.mk (hbox); have n3_ := Aside0.mk ((by rw [hg]; exact (below_size (by repeat (first | (with_reducible first | exact HB.out | apply below_alloc | apply pw_below_drewN | apply below_drew1 | refine below_set ?_ GE106.out) | exact HB.out))) : w.heap.size ≤ gb107)); have n4_ := Aside0.mk ((by rw [hg]; exact (below_size (by repeat (first | (with_reducible first | exact HB.out | apply below_alloc | apply pw_below_drewN | apply below_drew1 | refine below_set ?_ GE106.out) | exact HB.out))) : w.heap.size ≤ gb107)); have n5_ := Aside0.mk ((by rw [hg]; exact Nat.ne_of_lt (blk_lt (g := gb106) (o := .cells #[.bool a0_0, .slice A0_1 l0_1.length c0_1, .string a0_2, .string a0_3] 46 (0, 0)) (by (with_reducible repeat (first | refine blk_drewN ?_ _ | refine blk_drew ?_ | refine blk_alloc ?_ _)); exact BK106.out)) : gb106 ≠ gb107)); have n6_ := Aside0.mk ((by rw [hg]; exact Nat.ne_of_gt (blk_lt (g := gb106) (o := .cells #[.bool a0_0, .slice A0_1 l0_1.length c0_1, .string a0_2, .string a0_3] 46 (0, 0)) (by (with_reducible repeat (first | refine blk_drewN ?_ _ | refine blk_drew ?_ | refine blk_alloc ?_ _)); exact BK106.out)) : gb107 ≠ gb106)); clear BK106; clear HB; have BK106 := n0_; have HB := n1_; have BK107 := n2_; have GW107 := n3_; have GE107 := n4_; have NB106_107 := n5_; have NB107_106 := n6_; clear n0_ n1_ n2_ n3_ n4_ n5_ n6_; clear hb hbox hg))
  have n0_ := Aside0.mk (blk_drew BK106.out)
  have n1_ := Aside0.mk (blk_drew BK107.out)
  have n2_ := Aside0.mk (below_drew1 HB.out)
  clear BK106
  clear BK107
  clear HB
  have BK106 := n0_
  have BK107 := n1_
  have HB := n2_
  clear n0_ n1_ n2_
  refine start_ (n := 11) (S := fun w' => w'.cell? ⟨gb106, 0, none⟩ = some (.bool a0_0) ∧ w'.cell? ⟨gb106, 1, none⟩ = some (.slice A0_1 l0_1.length c0_1) ∧ w'.cell? ⟨gb106, 2, none⟩ = some (.string a0_2) ∧ w'.cell? ⟨gb106, 3, none⟩ = some (.string a0_3)) (ds := []) #[false, false, false, false, false, false, false, false, false, false, false] (by kernel_rfl) rfl rfl ⟨(blk_cell BK106.out 0).trans rfl, (blk_cell BK106.out 1).trans rfl, (blk_cell BK106.out 2).trans rfl, (blk_cell BK106.out 3).trans rfl⟩ (fun hHeld => ?_); refine with_tabW told_tab1 told_bits1 (fun HT_ HW_ => ?_)
  generalize w4.drew = w5 at BK106 BK107 HB hHeld ⊢
  refine pure_ (i := 0) (N := some 3) (v := ?_) (a' := ?_) #[true, false, false, false, false, false, false, false, false, false, false] rfl rfl (any_of HT_.out (by kernel_rfl)) (fun _ _ _ h => h) (Or.inl ⟨by rfl, ?_⟩) ?_ ?_
  rotate_left
  · intro w'
    go_simp
    with_reducible rfl
  rotate_left
  · simp only [Act.put, List.setIfInBounds_toArray, List.set_cons_zero, List.set_cons_succ, i64_w, i32_w]
    rfl
  refine pure_ (i := 2) (N := some 5) (v := ?_) (a' := ?_) #[true, false, true, false, false, false, false, false, false, false, false] rfl rfl (any_of HT_.out (by kernel_rfl)) (fun _ _ _ h => h) (Or.inl ⟨by rfl, ?_⟩) ?_ ?_
  rotate_left
  · intro w'
    go_simp
    with_reducible rfl
  rotate_left
  · simp only [Act.put, List.setIfInBounds_toArray, List.set_cons_zero, List.set_cons_succ, i64_w, i32_w]
    rfl
  refine pure_ (i := 5) (N := some 8) (v := ?_) (a' := ?_) #[true, false, true, false, false, true, false, false, false, false, false] rfl rfl (any_of HT_.out (by kernel_rfl)) (fun _ _ _ h => h) (Or.inl ⟨by rfl, ?_⟩) ?_ ?_
  rotate_left
  · intro w'
    go_simp
    with_reducible rfl
  rotate_left
  · simp only [Act.put, List.setIfInBounds_toArray, List.set_cons_zero, List.set_cons_succ, i64_w, i32_w]
    rfl
  refine pure_ (i := 7) (N := some 10) (v := ?_) (a' := ?_) #[true, false, true, false, false, true, false, true, false, false, false] rfl rfl (any_of HT_.out (by kernel_rfl)) (fun _ _ _ h => h) (Or.inl ⟨by rfl, ?_⟩) ?_ ?_
  rotate_left
  · intro w'
    go_simp
    with_reducible rfl
  rotate_left
  · simp only [Act.put, List.setIfInBounds_toArray, List.set_cons_zero, List.set_cons_succ, i64_w, i32_w]
    rfl
  refine take_ (i := 1) (N := some 4) (v := ?_) (a' := ?_) #[true, true, true, false, false, true, false, true, false, false, false] rfl rfl (take_ofW HT_.out HW_.out (by kernel_rfl)) (fun _ _ _ h => h) (Or.inl ⟨by rfl, ?_⟩) hHeld ?_ ?_
  rotate_left
  · rintro w' ⟨s0, s1, s2, s3⟩
    go_simp
    with_reducible rfl
  rotate_left
  · simp only [Act.put, List.setIfInBounds_toArray, List.set_cons_zero, List.set_cons_succ, i64_w, i32_w]
    rfl
  refine take_ (i := 3) (N := some 6) (v := ?_) (a' := ?_) #[true, true, true, true, false, true, false, true, false, false, false] rfl rfl (take_ofW HT_.out HW_.out (by kernel_rfl)) (fun _ _ _ h => h) (Or.inl ⟨by rfl, ?_⟩) hHeld ?_ ?_
  rotate_left
  · rintro w' ⟨s0, s1, s2, s3⟩
    go_simp
    with_reducible rfl
  rotate_left
  · simp only [Act.put, List.setIfInBounds_toArray, List.set_cons_zero, List.set_cons_succ, i64_w, i32_w]
    rfl
  refine take_ (i := 6) (N := some 9) (v := ?_) (a' := ?_) #[true, true, true, true, false, true, true, true, false, false, false] rfl rfl (take_ofW HT_.out HW_.out (by kernel_rfl)) (fun _ _ _ h => h) (Or.inl ⟨by rfl, ?_⟩) hHeld ?_ ?_
  rotate_left
  · rintro w' ⟨s0, s1, s2, s3⟩
    go_simp
    with_reducible rfl
  rotate_left
  · simp only [Act.put, List.setIfInBounds_toArray, List.set_cons_zero, List.set_cons_succ, i64_w, i32_w]
    rfl
  refine take_ (i := 8) (N := some 11) (v := ?_) (a' := ?_) #[true, true, true, true, false, true, true, true, true, false, false] rfl rfl (take_ofW HT_.out HW_.out (by kernel_rfl)) (fun _ _ _ h => h) (Or.inl ⟨by rfl, ?_⟩) hHeld ?_ ?_
  rotate_left
  · rintro w' ⟨s0, s1, s2, s3⟩
    go_simp
    with_reducible rfl
  rotate_left
  · simp only [Act.put, List.setIfInBounds_toArray, List.set_cons_zero, List.set_cons_succ, i64_w, i32_w]
    rfl
  refine one_ (i := 4) (N := some 7) #[true, true, true, true, true, true, true, true, true, false, false] rfl rfl (one_of HT_.out (by kernel_rfl)) (by decide) (fun K hK => ?_)
  refine goes_ Tryz.func82 (by kernel_rfl) rfl #[.slice A0_1 l0_1.length c0_1] (by rfl) rfl rfl (by (try simp only [List.map_toArray, List.map_cons, List.map_nil]); first | done | rfl | (simp only [List.length_drop, List.length_take]; rfl)) ?_
  with_reducible refine (ZP.out _ ?side1).mono ?_
  (case side1 => repeat (first | (with_reducible first | exact HB.out | apply below_alloc | apply pw_below_drewN | apply below_drew1) | exact HB.out))
  rintro e w6 ⟨v109, rfl, ho0, hb⟩
  refine ⟨_, rfl, ?_⟩
  have n0_ := Aside0.mk (Kd.R_lower ho0 (below_size (by repeat (first | (with_reducible first | exact HB.out | apply below_alloc | apply pw_below_drewN | apply below_drew1 | refine below_set ?_ GE106.out | refine below_set ?_ GE107.out) | exact HB.out))))
  have n1_ := Aside0.mk (blk_below (g := gb106) (o := .cells #[.bool a0_0, .slice A0_1 l0_1.length c0_1, .string a0_2, .string a0_3] 46 (0, 0)) (by (with_reducible repeat (first | refine blk_drewN ?_ _ | refine blk_drew ?_ | refine blk_alloc ?_ _)); exact BK106.out) hb)
  have n2_ := Aside0.mk (blk_below (g := gb107) (o := .cells #[.bool false, .slice none 0 0, .string (⟨#[]⟩ : ByteArray), .string (⟨#[]⟩ : ByteArray)] 70 (0, 0)) (by (with_reducible repeat (first | refine blk_drewN ?_ _ | refine blk_drew ?_ | refine blk_alloc ?_ _)); exact BK107.out) hb)
  have n3_ := Aside0.mk (below_step (by repeat (first | (with_reducible first | exact HB.out | apply below_alloc | apply pw_below_drewN | apply below_drew1 | refine below_set ?_ GE106.out | refine below_set ?_ GE107.out) | exact HB.out)) hb)
  clear BK106
  clear BK107
  clear HB
  have HO110 := n0_
  have BK106 := n1_
  have BK107 := n2_
  have HB := n3_
  clear n0_ n1_ n2_ n3_
  (try clear hb)
  (try clear hb2)
  (try clear hk)
  (try clear hi)
  (try clear ho0)
  obtain ⟨Ao7, co7, eo7⟩ := Kd.R_slice HO110.out
  (first | subst eo7 | (injection eo7 with f1_ f2_ f3_; have f4_ := f1_.symm; have f5_ := f3_.symm; clear f1_ f2_ f3_; subst f4_; subst f5_))
  refine hK.out _ _ ⟨(blk_cell BK106.out 0).trans rfl, (blk_cell BK106.out 1).trans rfl, (blk_cell BK106.out 2).trans rfl, (blk_cell BK106.out 3).trans rfl⟩ (fun hHeld => ?_)
  clear hK K
  refine norm_ (a' := ?_) ?_ ?_
  rotate_left
  · show Act.put _ (some 7) _ = _
    simp only [Act.put, List.setIfInBounds_toArray, List.set_cons_zero, List.set_cons_succ, i64_w, i32_w]
    rfl
  refine pure_ (i := 9) (N := some 12) (v := ?_) (a' := ?_) #[true, true, true, true, true, true, true, true, true, true, false] rfl rfl (any_of HT_.out (by kernel_rfl)) (fun _ _ _ h => h) (Or.inl ⟨by rfl, ?_⟩) ?_ ?_
  rotate_left
  · intro w'
    go_simp
    with_reducible rfl
  rotate_left
  · simp only [Act.put, List.setIfInBounds_toArray, List.set_cons_zero, List.set_cons_succ, i64_w, i32_w]
    rfl
  refine one_ (i := 10) (N := none) #[true, true, true, true, true, true, true, true, true, true, true] rfl rfl (one_of HT_.out (by kernel_rfl)) (by decide) (fun K hK => ?_)
  have hs8 : w6.cell? ⟨gb107, 0, none⟩ = some (.bool false) := (blk_cell BK107.out 0).trans rfl
  have hfs8 := blk_frozen BK107.out 0
  have hns8_0 := NB106_107.out
  have hms8_0 := NB107_106.out
  have hs9 : w6.cell? ⟨gb107, 1, none⟩ = some (.slice none 0 0) := (blk_cell BK107.out 1).trans rfl
  have hfs9 := blk_frozen BK107.out 1
  have hns9_0 := NB106_107.out
  have hms9_0 := NB107_106.out
  have hs10 : w6.cell? ⟨gb107, 2, none⟩ = some (.string (⟨#[]⟩ : ByteArray)) := (blk_cell BK107.out 2).trans rfl
  have hfs10 := blk_frozen BK107.out 2
  have hns10_0 := NB106_107.out
  have hms10_0 := NB107_106.out
  have hs11 : w6.cell? ⟨gb107, 3, none⟩ = some (.string (⟨#[]⟩ : ByteArray)) := (blk_cell BK107.out 3).trans rfl
  have hfs11 := blk_frozen BK107.out 3
  have hns11_0 := NB106_107.out
  have hms11_0 := NB107_106.out
  refine skip_ (w1 := ?_) (by rfl) rfl ?_ ?_
  rotate_left
  · go_simp
    rfl
  refine hK.out _ _ ⟨((cell_far (p := ⟨gb107, _, none⟩) NB106_107.out _).trans (((cell_far (p := ⟨gb107, _, none⟩) NB106_107.out _).trans (((cell_far (p := ⟨gb107, _, none⟩) NB106_107.out _).trans (((cell_far (p := ⟨gb107, _, none⟩) NB106_107.out _).trans (hHeld.1)))))))), ((cell_far (p := ⟨gb107, _, none⟩) NB106_107.out _).trans (((cell_far (p := ⟨gb107, _, none⟩) NB106_107.out _).trans (((cell_far (p := ⟨gb107, _, none⟩) NB106_107.out _).trans (((cell_far (p := ⟨gb107, _, none⟩) NB106_107.out _).trans (hHeld.2.1)))))))), ((cell_far (p := ⟨gb107, _, none⟩) NB106_107.out _).trans (((cell_far (p := ⟨gb107, _, none⟩) NB106_107.out _).trans (((cell_far (p := ⟨gb107, _, none⟩) NB106_107.out _).trans (((cell_far (p := ⟨gb107, _, none⟩) NB106_107.out _).trans (hHeld.2.2.1)))))))), ((cell_far (p := ⟨gb107, _, none⟩) NB106_107.out _).trans (((cell_far (p := ⟨gb107, _, none⟩) NB106_107.out _).trans (((cell_far (p := ⟨gb107, _, none⟩) NB106_107.out _).trans (((cell_far (p := ⟨gb107, _, none⟩) NB106_107.out _).trans (hHeld.2.2.2))))))))⟩ (fun hHeld => ?_)
  clear hK K
  refine done_ (done_of HT_.out (by kernel_rfl)) ?_
  try go_wp2
  refine bodyPost_ret (results_cell_row rfl _ _ gb107 70 #[.bool a0_0, .slice Ao7 (pl l0_1).length co7, .string a0_2, .string a0_3] (0, 0) _ rfl (by (with_reducible repeat (first | refine blk_drewN ?_ _ | refine blk_drew ?_ | refine blk_alloc ?_ _)); refine blk_put (cs := #[.bool a0_0, .slice Ao7 (pl l0_1).length co7, .string a0_2, .string (⟨#[]⟩ : ByteArray)]) ?_ 3 _ rfl; (with_reducible repeat (first | refine blk_drewN ?_ _ | refine blk_drew ?_ | refine blk_alloc ?_ _)); refine blk_put (cs := #[.bool a0_0, .slice Ao7 (pl l0_1).length co7, .string (⟨#[]⟩ : ByteArray), .string (⟨#[]⟩ : ByteArray)]) ?_ 2 _ rfl; (with_reducible repeat (first | refine blk_drewN ?_ _ | refine blk_drew ?_ | refine blk_alloc ?_ _)); refine blk_put (cs := #[.bool a0_0, .slice none 0 0, .string (⟨#[]⟩ : ByteArray), .string (⟨#[]⟩ : ByteArray)]) ?_ 1 _ rfl; (with_reducible repeat (first | refine blk_drewN ?_ _ | refine blk_drew ?_ | refine blk_alloc ?_ _)); refine blk_put (cs := #[.bool false, .slice none 0 0, .string (⟨#[]⟩ : ByteArray), .string (⟨#[]⟩ : ByteArray)]) ?_ 0 _ rfl; (with_reducible repeat (first | refine blk_drewN ?_ _ | refine blk_drew ?_ | refine blk_alloc ?_ _)); exact BK107.out) Tryz.underlying70 rfl (by kernel_rfl)) rfl ?_
  exact ⟨_, by first | rfl | (simp [errW_none, errW_some] <;> rfl) | (simp [*, errW_none, errW_some] <;> rfl) | (simp [bne_nil_]; done), by (with_reducible repeat (first | apply Kd.R_alloc | apply Kd.R_drewN | apply Kd.R_drew)); exact Kd.R_mono (Kd.R_far (p := ⟨gb107, 3, none⟩) (Kd.R_far (p := ⟨gb107, 2, none⟩) (Kd.R_far (p := ⟨gb107, 1, none⟩) (Kd.R_far (p := ⟨gb107, 0, none⟩) (Kd.R_types HO110.out BK107.out (by decide)) (fun _ hk => hk.2) (.bool a0_0)) (fun _ hk => hk.2) (.slice Ao7 (pl l0_1).length co7)) (fun _ hk => hk.2) (.string a0_2)) (fun _ hk => hk.2) (.string a0_3)) (fun _ hk => trivial), by repeat (first | (with_reducible first | exact HB.out | apply below_alloc | apply pw_below_drewN | apply below_drew1 | refine below_set ?_ GE106.out | refine below_set ?_ GE107.out) | exact HB.out)⟩
end Go.Proofs.YtdliagehkiihpaaGreatDoor.Giv

namespace Go.Proofs.YtdliagehkiihpaaGreatDoor.Giv
open Go.RowKit Go.Proofs.YtdliagehkiihpaaGreatDoorW.PrintWords Go.Proofs.YtdliagehkiihpaaGreatDoorW.PrintLast Go.Proofs.YtdliagehkiihpaaGreatDoor.Pk Go.Proofs.YtdliagehkiihpaaGreatDoor.Ord Go.Proofs.YtdliagehkiihpaaGreatDoor.QU
set_option linter.unusedVariables false
set_option linter.unusedSimpArgs false
theorem parseR_len (s : ByteArray) (hs : s.size ≤ 40000) : (Slk.parseR s).1.length ≤ 100000 := by
  have := Slk.slG_len (bs (Slk.body s.toList)) s.size 0 [] []
  unfold Slk.parseR
  have e : ([] : List Int).length = 0 := rfl
  omega
set_option maxRecDepth 100000 in
set_option maxHeartbeats 4000000 in
theorem zzLikeParse_calls (s : ByteArray) (w : World) (hs : s.size ≤ 40000) (hL : Laid w) :
    Calls Tryz.prog 47 #[.string s] w fun e w' => ∃ v : Value, e = .returned (.agg #[.bool (Slk.lead s.toList), v, .string (bs (Slk.parseR s).2), .string s]) ∧ Kd.R k109 109 w' w.heap.size (fun _ => True) v (pl (Slk.parseR s).1) ∧ Below w.heap.size w w' := by
  have al := below_alloc (Below.refl w.heap.size w) (Obj.cells #[Value.bool false, .slice none 0 0, .string ⟨#[]⟩, .string ⟨#[]⟩] 70)
  have AL := Aside0.mk al
  have K0 := Aside0.mk (blk_new w (Obj.cells #[Value.bool false, .slice none 0 0, .string ⟨#[]⟩, .string ⟨#[]⟩] 70))
  have pq := parseLike_calls s _ hs (hL.below al)
  have LN := Aside0.mk (parseR_len s hs)
  clear al hs hL
  generalize Slk.lead s.toList = lv at *
  generalize Slk.parseR s = full at *
  go_enter Tryz.func47, Tryz.ntmps47
  go_wp2_with (first | (go_at_call 66; (with_reducible refine pq.mono ?_); rintro e w1 ⟨v, rfl, ho, d1⟩; obtain ⟨A, c, rfl, hc, hr⟩ := ho.slice; have HR := Aside0.mk hr; have D1 := Aside0.mk (below_then AL.out AL.out.size d1); have K1 := Aside0.mk ((d1.block _ (blk_lt K0.out)).trans K0.out); clear ho d1 hc hr) | (go_at_call 65; (with_reducible refine (told_calls lv A full.1.length c full.1 (bs full.2) s _ rfl HR.out LN.out).mono ?_); rintro e w2 ⟨v2, rfl, r2, d2⟩; obtain ⟨A2, c2, e2⟩ := Kd.R_slice r2; subst e2; have R2 := Aside0.mk (Kd.R_lower r2 D1.out.size); have D2 := Aside0.mk (below_then D1.out D1.out.size d2); have k2 := (d2.block _ (blk_lt K1.out)).trans K1.out; have K2 := Aside0.mk k2; have p0 := blk_cell k2 0; have p1 := blk_cell k2 1; have p2 := blk_cell k2 2; have p3 := blk_cell k2 3; have f0 := Lib.frozen_of_heap k2 0; have f1 := Lib.frozen_of_heap k2 1; have f2 := Lib.frozen_of_heap k2 2; have f3 := Lib.frozen_of_heap k2 3; clear r2 d2 k2))
  have M3 := Aside0.mk (sx_put4 K2.out (.bool lv) (.slice A2 (pl full.1).length c2) (.string (bs full.2)) (.string s))
  refine bodyPost_ret (results_cell_row rfl _ _ w.heap.size 70 #[.bool lv, .slice A2 (pl full.1).length c2, .string (bs full.2), .string s] (0, 0) _ rfl M3.out Tryz.underlying70 rfl (by kernel_rfl)) rfl ?_
  exact ⟨_, rfl, Kd.R_mono (Kd.R_far (p := ⟨w.heap.size, 3, none⟩) (Kd.R_far (p := ⟨w.heap.size, 2, none⟩) (Kd.R_far (p := ⟨w.heap.size, 1, none⟩) (Kd.R_far (p := ⟨w.heap.size, 0, none⟩) (Kd.R_types R2.out K2.out (by decide)) (fun _ hk => hk.2) _) (fun _ hk => hk.2) _) (fun _ hk => hk.2) _) (fun _ hk => hk.2) _) (fun _ hk => trivial), below_set (below_set (below_set (below_set D2.out (Nat.le_refl _)) (Nat.le_refl _)) (Nat.le_refl _)) (Nat.le_refl _)⟩
set_option maxRecDepth 100000 in
set_option maxHeartbeats 4000000 in
theorem likeParse_calls (s : ByteArray) (w : World) (hs : s.size ≤ 40000) (hL : Laid w) :
    Calls Tryz.prog 22 #[.string s] w fun e w' => ∃ v : Value, e = .returned (.agg #[.bool (Slk.lead s.toList), v, .string (bs (Slk.parseR s).2), .string s]) ∧ Kd.R k64 64 w' w.heap.size (fun _ => True) v (pn (Slk.parseR s).1) ∧ Below w.heap.size w w' := by
  have al := below_alloc (Below.refl w.heap.size w) (Obj.cells #[Value.bool false, .slice none 0 0, .string ⟨#[]⟩, .string ⟨#[]⟩] 37)
  have AL := Aside0.mk al
  have K0 := Aside0.mk (blk_new w (Obj.cells #[Value.bool false, .slice none 0 0, .string ⟨#[]⟩, .string ⟨#[]⟩] 37))
  have pq := zzLikeParse_calls s _ hs (hL.below al)
  obtain ⟨kp, hp⟩ := plains_all (Slk.parseR s).1 (parseR_len s hs)
  have hq : impl_plainLike.f kp (Slk.lead s.toList) (pl (Slk.parseR s).1) (bs (Slk.parseR s).2) s = some (Slk.lead s.toList, pn (Slk.parseR s).1, bs (Slk.parseR s).2, s) := by
    unfold impl_plainLike.f
    rw [hp]
    rfl
  have LN := Aside0.mk (show (pn (Slk.parseR s).1).length = (pn (Slk.parseR s).1).length from rfl)
  clear al hs hL hp
  generalize Slk.lead s.toList = lv at *
  generalize Slk.parseR s = full at *
  go_enter Tryz.func22, Tryz.ntmps22
  go_wp2_with (first | (go_at_call 47; (with_reducible refine pq.mono ?_); rintro e w1 ⟨v, rfl, ho, d1⟩; obtain ⟨A, c, e1, hc, hr⟩ := Kd.R_reads ho; subst e1; have HR := Aside0.mk hr; have HC := Aside0.mk hc; have D1 := Aside0.mk (below_then AL.out AL.out.size d1); have K1 := Aside0.mk ((d1.block _ (blk_lt K0.out)).trans K0.out); clear ho d1 hc hr) | (go_at_call 46; (with_reducible refine (impl_plainLike.calls kp lv A c (pl full.1) (bs full.2) s lv (pn full.1) (bs full.2) s _ HR.out HC.out hq).mono ?_); rintro e w2 ⟨v2, rfl, r2, d2⟩; obtain ⟨A2, c2, e2⟩ := Kd.R_slice r2; subst e2; have R2 := Aside0.mk (Kd.R_lower r2 D1.out.size); have D2 := Aside0.mk (below_then D1.out D1.out.size d2); have k2 := (d2.block _ (blk_lt K1.out)).trans K1.out; have K2 := Aside0.mk k2; have p0 := blk_cell k2 0; have p1 := blk_cell k2 1; have p2 := blk_cell k2 2; have p3 := blk_cell k2 3; have f0 := Lib.frozen_of_heap k2 0; have f1 := Lib.frozen_of_heap k2 1; have f2 := Lib.frozen_of_heap k2 2; have f3 := Lib.frozen_of_heap k2 3; clear r2 d2 k2))
  have M3 := Aside0.mk (sx_put4 K2.out (.bool lv) (.slice A2 (pn full.1).length c2) (.string (bs full.2)) (.string s))
  refine bodyPost_ret (results_cell_row rfl _ _ w.heap.size 37 #[.bool lv, .slice A2 (pn full.1).length c2, .string (bs full.2), .string s] (0, 0) _ rfl M3.out Tryz.underlying37 rfl (by kernel_rfl)) rfl ?_
  exact ⟨_, rfl, Kd.R_mono (Kd.R_far (p := ⟨w.heap.size, 3, none⟩) (Kd.R_far (p := ⟨w.heap.size, 2, none⟩) (Kd.R_far (p := ⟨w.heap.size, 1, none⟩) (Kd.R_far (p := ⟨w.heap.size, 0, none⟩) (Kd.R_types R2.out K2.out (by decide)) (fun _ hk => hk.2) _) (fun _ hk => hk.2) _) (fun _ hk => hk.2) _) (fun _ hk => hk.2) _) (fun _ hk => trivial), below_set (below_set (below_set (below_set D2.out (Nat.le_refl _)) (Nat.le_refl _)) (Nat.le_refl _)) (Nat.le_refl _)⟩
end Go.Proofs.YtdliagehkiihpaaGreatDoor.Giv

namespace Go.Proofs.YtdliagehkiihpaaGreatDoor.Giv
open Go.RowKit Go.Proofs.YtdliagehkiihpaaGreatDoorW.PrintWords Go.Proofs.YtdliagehkiihpaaGreatDoorW.PrintLast Go.Proofs.YtdliagehkiihpaaGreatDoor.Pk Go.Proofs.YtdliagehkiihpaaGreatDoor.Ord Go.Proofs.YtdliagehkiihpaaGreatDoor.QU
set_option linter.unusedVariables false
set_option linter.unusedSimpArgs false

theorem ptrInfoZ : (Tryz.prog.info? 94).map (fun i => (i.zero, i.size, i.bytes)) = some (some (.pointer none), 1, 8) := by kernel_rfl
/-- What plain numbers tell. -/
def zsOf (l : List S109) : List Int := l.map fun x => zOf x.f0 x.f1
theorem zsOf_len (l : List S109) : (zsOf l).length = l.length := by simp [zsOf]
set_option maxHeartbeats 4000000 in
set_option maxRecDepth 100000 in
theorem zzBigs_calls (A : Option Addr) (c : Nat) (l : List S109) (w : World) (hr : Kd.C k109 w A l.length l) (hl : l.length ≤ 100000) (hs : ∀ x ∈ l, x.f1.size ≤ 100000) :
    Calls Tryz.prog 81 #[.slice A l.length c] w fun e w' => ∃ v, e = .returned v ∧ BOwn w' w.heap.size v (zsOf l) ∧ Below w.heap.size w w' := by
  have HR := Aside0.mk hr
  clear hr
  go_enter Tryz.func81, Tryz.ntmps81
  go_wp2_with fail
  go_loopw [3, 8] (fun v3 v8 wr => ∃ (k : Nat), v8 = .int .i64 k ∧ k ≤ l.length ∧ Aside0 (BOwn wr w.heap.size v3 (zsOf (l.take k))) ∧ Aside0 (Below w.heap.size w wr)) (fun v3 v8 wr => l.length - (match v8 with | .int _ n => n.toNat | _ => 0))
  case atStart => exact ⟨0, rfl, Nat.zero_le _, Aside0.mk (BOwn.nil w w.heap.size), Aside0.mk (Below.refl _ _)⟩
  case round =>
    obtain ⟨k, rfl, hk, HB, BL⟩ := hrel
    by_cases hlt : k < l.length
    · obtain ⟨ad, rfl, c0, c1⟩ := at_T109 HR.out (k : Int) (by omega) (by omega)
      replace c0 := (BL.out.cell (World.block_lt_of_cell? w _ c0)).trans c0
      replace c1 := (BL.out.cell (World.block_lt_of_cell? w _ c1)).trans c1
      have er : rd_T109 l (k : Int) = l[k]'hlt := by
        unfold rd_T109
        rw [Int.toNat_natCast, List.getD_eq_getElem?_getD, List.getElem?_eq_getElem hlt]
        rfl
      rw [er, Int.toNat_natCast] at c0 c1
      have hsx := hs _ (List.getElem_mem hlt)
      have nx : zsOf (l.take k) ++ [zOf (l[k]'hlt).f0 (l[k]'hlt).f1] = zsOf (l.take (k + 1)) := by
        unfold zsOf
        rw [List.take_succ_eq_append_getElem hlt, List.map_append]
        rfl
      have NX := Aside0.mk nx
      have LEN := Aside0.mk (show (zsOf (l.take k)).length = k by rw [zsOf_len, List.length_take]; omega)
      clear nx er
      generalize l[k]'hlt = x at *
      obtain ⟨ng, mg⟩ := x
      have k4 := blk_new wr (Obj.cells #[Value.bool false, .string ⟨#[]⟩] 109)
      have p0 := blk_cell k4 0
      have p1 := blk_cell k4 1
      have f0 := Lib.frozen_of_heap k4 0
      have f1 := Lib.frozen_of_heap k4 1
      have lt4 := blk_lt k4
      have k5 := blk_new wr (Obj.cells #[Value.bool ng, .string mg] 109)
      have q0 := blk_cell k5 0
      have q1 := blk_cell k5 1
      have A5 := Aside0.mk (below_alloc (Below.refl wr.heap.size wr) (Obj.cells #[Value.bool ng, .string mg] 109))
      have zb := fun (w' : World) => zzBig_calls ng mg w' hsx
      have f4 : (k : Int) < (l.length : Int) := Int.ofNat_lt.2 hlt
      have WK := Aside0.mk (Pk.wr k (by omega))
      have KL := Aside0.mk hlt
      have HL := Aside0.mk hl
      clear k4 k5 hs hlt hl hk
      go_wp2_with (first | (go_at_call 96; (with_reducible refine (zb _).mono ?_); rintro e w3 ⟨p, rfl, hp, d3⟩; have B3 := below_then A5.out A5.out.size d3; have BL3 := Aside0.mk (below_then BL.out BL.out.size B3); have BS3 := Aside0.mk (Nat.le_trans BL.out.size B3.size); obtain ⟨qs, hq1, hq2⟩ := HB.out.below B3; have HQ1 := Aside0.mk hq1; have HQ2 := Aside0.mk hq2; have Q2 := Aside0.mk hp; have QL := Aside0.mk (show (qs.length + 1) * 8 ≤ 140737488355328 by rw [hq2.1, LEN.out]; have := KL.out; have := HL.out; omega); clear B3 hq1 hq2 hp d3) | ((with_reducible refine gate_builtin (b := .append) (xs := #[.tmp 12, .tmp 15]) rfl ?_); at_builtin; refine Kd.R_append ptrK (w0 := w) w.heap.size rfl (.tmp 12) (.tmp 15) 43 94 (.pointer none) 8 rfl Tryz.underlying43 ptrInfoZ rfl (by decide) (by omega) u3 qs p [.pointer (some ⟨p, 0, none⟩)] (fun _ => True) (fun _ => False) rfl rfl ?aP (fun _ hk => hk.elim) ?aF ?aO ?aB ?aS ?aL ?_; (case aP => exact rfl); (case aF => exact (fun _ _ => trivial)); (case aO => exact HQ1.out); (case aB => exact BL3.out); (case aS => exact BS3.out); (case aL => exact QL.out); intro v5 w5 ho hb hg hat; have HO := Aside0.mk (BOwn.more HQ1.out HQ2.out Q2.out ho hg); have BL5 := Aside0.mk hb; clear ho hb hg hat))
      refine ⟨⟨k + 1, ?_, KL.out, Aside0.mk (NX.out ▸ HO.out), BL5⟩, ?_⟩
      · rw [WK.out]
      · have := KL.out
        simp only [WK.out, Int.toNat_natCast]
        omega
    · obtain rfl : k = l.length := by omega
      have f4 : ¬ (l.length : Int) < (l.length : Int) := by omega
      have e := HB.out
      rw [List.take_of_length_le (Nat.le_refl _)] at e
      have HE := Aside0.mk e
      clear e
      go_wp2_with fail
      go_ret
      exact ⟨_, rfl, HE.out, BL.out⟩
end Go.Proofs.YtdliagehkiihpaaGreatDoor.Giv

namespace Go.Proofs.YtdliagehkiihpaaGreatDoor.Giv
open Go.RowKit Go.Proofs.YtdliagehkiihpaaGreatDoorW.PrintWords Go.Proofs.YtdliagehkiihpaaGreatDoorW.PrintLast Go.Proofs.YtdliagehkiihpaaGreatDoor.Pk Go.Proofs.YtdliagehkiihpaaGreatDoor.Ord Go.Proofs.YtdliagehkiihpaaGreatDoor.QU
set_option linter.unusedVariables false
set_option linter.unusedSimpArgs false

/-- Plain numbers of the statements as the program's. -/
def zi (l : List S64) : List S109 := l.map fun x => ⟨x.f0, x.f1⟩
theorem zi_len (l : List S64) : (zi l).length = l.length := by simp [zi]
/-- What plain numbers of the statements tell. -/
def zn (l : List S64) : List Int := l.map fun x => zOf x.f0 x.f1
theorem zsOf_zi (l : List S64) : zsOf (zi l) = zn l := by
  unfold zsOf zi zn
  rw [List.map_map]
  rfl
theorem zn_len (l : List S64) : (zn l).length = l.length := by simp [zn]
theorem bigs_loop (l : List S64) (hl : l.length ≤ 100000) (d : Nat) : ∀ i : Nat, i + d = l.length → Ev (fun k => impl_bigs.l0 k (zi (l.take i)) l (l.length : Int) (i : Int)) (zi l) := by
  induction d with
  | zero =>
    intro i hi
    refine Ev.step (fun k => by rw [impl_bigs.l0]) ?_
    rw [List.take_of_length_le (by omega)]
    refine ev_neg (by omega) ?_
    exact Ev.now _
  | succ d ih =>
    intro i hi
    have hlt : i < l.length := by omega
    have w := wr i (by omega)
    have e : rd_T64 l (i : Int) = l[i]'hlt := by
      unfold rd_T64
      rw [Int.toNat_natCast, List.getD_eq_getElem?_getD, List.getElem?_eq_getElem hlt]
      rfl
    have s : zi (l.take i) ++ [(⟨(l[i]'hlt).f0, (l[i]'hlt).f1⟩ : S109)] = zi (l.take (i + 1)) := by
      unfold zi
      rw [List.take_succ_eq_append_getElem hlt, List.map_append]
      rfl
    have nx := ih (i + 1) (by omega)
    refine Ev.step (fun k => by rw [impl_bigs.l0, w, e, s]) ?_
    refine ev_pos (by omega) (ev_pos (by omega) (ev_pos (by omega) (ev_pos ?_ nx)))
    rw [zi_len, List.length_take]
    omega
theorem bigs_ev (l : List S64) (hl : l.length ≤ 100000) : Ev (fun k => impl_bigs.f k l) (zi l) := by
  unfold impl_bigs.f
  have := bigs_loop l hl _ 0 (Nat.zero_add _)
  exact this
/-- Lists that are small enough to be told. -/
def small (l : List S64) : Bool := decide (l.length ≤ 100000) && l.all (fun x => decide (x.f1.size ≤ 100000))
theorem small_len {l : List S64} (h : small l = true) : l.length ≤ 100000 := by
  unfold small at h
  rw [Bool.and_eq_true] at h
  exact of_decide_eq_true h.1
theorem small_all {l : List S64} (h : small l = true) : ∀ x ∈ zi l, x.f1.size ≤ 100000 := by
  unfold small at h
  rw [Bool.and_eq_true, List.all_eq_true] at h
  intro x hx
  unfold zi at hx
  obtain ⟨y, hy, rfl⟩ := List.mem_map.1 hx
  exact of_decide_eq_true (h.2 y hy)
end Go.Proofs.YtdliagehkiihpaaGreatDoor.Giv

namespace Go.Proofs.YtdliagehkiihpaaGreatDoor.Giv
open Go.RowKit Go.Proofs.YtdliagehkiihpaaGreatDoorW.PrintWords Go.Proofs.YtdliagehkiihpaaGreatDoorW.PrintLast Go.Proofs.YtdliagehkiihpaaGreatDoor.Pk Go.Proofs.YtdliagehkiihpaaGreatDoor.Ord Go.Proofs.YtdliagehkiihpaaGreatDoor.QU
set_option linter.unusedVariables false
set_option linter.unusedSimpArgs false

theorem BOwn.put4 {w : World} {base : Nat} {v : Value} {zs : List Int} (h : BOwn w base v zs) {g t : Nat} {cells : Array Value} (hb : w.heap[g]? = some (Obj.cells cells t (0, 0))) (ht : t ≠ 117 ∧ t ≠ 137) (hp : t ≠ 94) (v0 v1 v2 v3 : Value) : BOwn ((((w.setCell ⟨g, 0, none⟩ v0).setCell ⟨g, 1, none⟩ v1).setCell ⟨g, 2, none⟩ v2).setCell ⟨g, 3, none⟩ v3) base v zs := by
  have b1 := Joins.block_setCell (i := 0) hb v0
  have b2 := Joins.block_setCell (i := 1) b1 v1
  have b3 := Joins.block_setCell (i := 2) b2 v2
  exact (((h.put hb ht hp 0 v0).put b1 ht hp 1 v1).put b2 ht hp 2 v2).put b3 ht hp 3 v3
theorem implLike_ev (lv : Bool) (l : List S64) (b o : ByteArray) (hl : l.length ≤ 100000) : Ev (fun k => impl_like.f k lv l b o) (lv, zi l, b, o) := by
  unfold impl_like.f
  exact (bigs_ev l hl).bind (Ev.now _)
theorem implLike_calls (lv : Bool) (A : Option Addr) (c n : Nat) (l : List S64) (b o : ByteArray) (w : World) (hn : n = l.length) (hr : Kd.C k64 w A l.length l) (hc : l.length ≤ c) (hl : l.length ≤ 100000) :
    Calls Tryz.prog 44 #[.agg #[.bool lv, .slice A n c, .string b, .string o]] w fun e w' => ∃ (B : Option Addr) (d : Nat), e = .returned (.agg #[.bool lv, .slice B n d, .string b, .string o]) ∧ Kd.C k109 w' B (zi l).length (zi l) ∧ Below w.heap.size w w' := by
  subst hn
  obtain ⟨k, hk⟩ := (implLike_ev lv l b o hl).rounds
  refine (impl_like.calls k lv A c l b o lv (zi l) b o w hr hc hk).mono ?_
  rintro e w' ⟨v, rfl, ho, d⟩
  obtain ⟨B, d', rfl, _, h2⟩ := Kd.R_reads ho
  exact ⟨B, d', by rw [zi_len], h2, d⟩
def zzLike_T1 : Bool × List (List Nat × List Nat) := (true, [([], []), ([0], [0]), ([], []), ([2], [2]), ([3], [3]), ([], []), ([5], [5]), ([], []), ([7], [7]), ([1, 4, 6, 8], [1, 4, 6, 8]), ([9, 4, 0, 1, 2, 3, 4, 5, 6, 7, 8, 9], [9])])
def zzLike_B1 : List Nat := [0, 1, 0, 4, 12, 0, 32, 0, 128, 511, 1023]
theorem zzLike_tab1 : rtab .any (opsOf Tryz.f62 1) = zzLike_T1 := by kernel_rfl
theorem zzLike_bits1 : waitsOk zzLike_T1.2 zzLike_B1 = true := by kernel_rfl
set_option maxHeartbeats 8000000 in
set_option maxRecDepth 100000 in
theorem zzLike_calls (a0_0 : Bool) (A0_1 : Option Addr) (n c0_1 : Nat) (l0_1 : List S109) (a0_2 a0_3 : ByteArray) (w : World) (hn : n = l0_1.length) (hr0_1 : Kd.C k109 w A0_1 l0_1.length l0_1) (hl : l0_1.length ≤ 100000) (hs : ∀ x ∈ l0_1, x.f1.size ≤ 100000) :
    Calls Tryz.prog 62 #[.agg #[.bool a0_0, .slice A0_1 n c0_1, .string a0_2, .string a0_3]] w fun e w' => ∃ (B : Option Addr) (d : Nat), e = .returned (.agg #[.bool a0_0, .slice B (zsOf l0_1).length d, .string a0_2, .string a0_3]) ∧ BOwn w' w.heap.size (.slice B (zsOf l0_1).length d) (zsOf l0_1) ∧ Below w.heap.size w w' := by
  subst hn
  have huA := Tryz.underlying70
  have huB := Tryz.underlying46
  have HR0_1 := Aside0.mk hr0_1
  have ZB := Aside0.mk (fun (w' : World) (d : Below w.heap.size w w') => zzBigs_calls A0_1 c0_1 l0_1 w' (Kd.C_below HR0_1.out d) hl hs)
  clear hr0_1 hl hs
  have HB := Aside0.mk (Below.refl w.heap.size w)
  go_enter Tryz.func62, Tryz.ntmps62
  try go_wp2_with (first | ((with_reducible refine gate_dst (N := 1) rfl ?_); refine box_event ?hg (N := 1) ?hd (cs := #[.bool a0_0, .slice A0_1 l0_1.length c0_1, .string a0_2, .string a0_3]) (t := 70) ?hr ?_; (case hd => rfl); (case hg => rfl); (case hr => first | (go_simp; done) | (go_simp; rfl)); intro gb188 hg w3 hbox hb; have n0_ := Aside0.mk (below_step (by repeat (first | (with_reducible first | exact HB.out | apply below_alloc | apply pw_below_drewN | apply below_drew1) | exact HB.out)) hb); have n1_ := Aside0.mk (hbox); have n2_ := Aside0.mk ((by rw [hg]; exact (below_size (by repeat (first | (with_reducible first | exact HB.out | apply below_alloc | apply pw_below_drewN | apply below_drew1) | exact HB.out))) : w.heap.size ≤ gb188)); have n3_ := Aside0.mk ((by rw [hg]; exact (below_size (by repeat (first | (with_reducible first | exact HB.out | apply below_alloc | apply pw_below_drewN | apply below_drew1) | exact HB.out))) : w.heap.size ≤ gb188)); clear HB; have HB := n0_; have BK188 := n1_; have GW188 := n2_; have GE188 := n3_; clear n0_ n1_ n2_ n3_; clear hb hbox hg) | ((with_reducible refine gate_dst (N := 2) rfl ?_); refine box_event ?hg (N := 2) ?hd (cs := #[.bool false, .slice none 0 0, .string (⟨#[]⟩ : ByteArray), .string (⟨#[]⟩ : ByteArray)]) (t := 46) ?hr ?_; (case hd => rfl); (case hg => rfl); (case hr => first | (go_simp; done) | (go_simp; rfl)); intro gb189 hg w4 hbox hb; have n0_ := Aside0.mk (blk_below (g := gb188) (o := .cells #[.bool a0_0, .slice A0_1 l0_1.length c0_1, .string a0_2, .string a0_3] 70 (0, 0)) (by (with_reducible repeat (first | refine blk_drewN ?_ _ | refine blk_drew ?_ | refine blk_alloc ?_ _)); exact BK188.out) hb); have n1_ := Aside0.mk (below_step (by repeat (first | (with_reducible first | exact HB.out | apply below_alloc | apply pw_below_drewN | apply below_drew1 | refine below_set ?_ GE188.out) | exact HB.out)) hb); have n2_ := Aside0.mk (hbox); have n3_ := Aside0.mk ((by rw [hg]; exact (below_size (by repeat (first | (with_reducible first | exact HB.out | apply below_alloc | apply pw_below_drewN | apply below_drew1 | refine below_set ?_ GE188.out) | exact HB.out))) : w.heap.size ≤ gb189)); have n4_ := Aside0.mk ((by rw [hg]; exact (below_size (by repeat (first | (with_reducible first | exact HB.out | apply below_alloc | apply pw_below_drewN | apply below_drew1 | refine below_set ?_ GE188.out) | exact HB.out))) : w.heap.size ≤ gb189)); have n5_ := Aside0.mk ((by rw [hg]; exact Nat.ne_of_lt (blk_lt (g := gb188) (o := .cells #[.bool a0_0, .slice A0_1 l0_1.length c0_1, .string a0_2, .string a0_3] 70 (0, 0)) (by (with_reducible repeat (first | refine blk_drewN ?_ _ | refine blk_drew ?_ | refine blk_alloc ?_ _)); exact BK188.out)) : gb188 ≠ gb189)); have n6_ := Aside0.mk ((by rw [hg]; exact Nat.ne_of_gt (blk_lt (g := gb188) (o := .cells #[.bool a0_0, .slice A0_1 l0_1.length c0_1, .string a0_2, .string a0_3] 70 (0, 0)) (by (with_reducible repeat (first | refine blk_drewN ?_ _ | refine blk_drew ?_ | refine blk_alloc ?_ _)); exact BK188.out)) : gb189 ≠ gb188)); clear BK188; clear HB; have BK188 := n0_; have HB := n1_; have BK189 := n2_; have GW189 := n3_; have GE189 := n4_; have NB188_189 := n5_; have NB189_188 := n6_; clear n0_ n1_ n2_ n3_ n4_ n5_ n6_; clear hb hbox hg))
  have n0_ := Aside0.mk (blk_drew BK188.out)
  have n1_ := Aside0.mk (blk_drew BK189.out)
  have n2_ := Aside0.mk (below_drew1 HB.out)
  clear BK188
  clear BK189
  clear HB
  have BK188 := n0_
  have BK189 := n1_
  have HB := n2_
  clear n0_ n1_ n2_
  refine start_ (n := 11) (S := fun w' => w'.cell? ⟨gb188, 0, none⟩ = some (.bool a0_0) ∧ w'.cell? ⟨gb188, 1, none⟩ = some (.slice A0_1 l0_1.length c0_1) ∧ w'.cell? ⟨gb188, 2, none⟩ = some (.string a0_2) ∧ w'.cell? ⟨gb188, 3, none⟩ = some (.string a0_3)) (ds := []) #[false, false, false, false, false, false, false, false, false, false, false] (by kernel_rfl) rfl rfl ⟨(blk_cell BK188.out 0).trans rfl, (blk_cell BK188.out 1).trans rfl, (blk_cell BK188.out 2).trans rfl, (blk_cell BK188.out 3).trans rfl⟩ (fun hHeld => ?_); refine with_tabW zzLike_tab1 zzLike_bits1 (fun HT_ HW_ => ?_)
  generalize w4.drew = w5 at BK188 BK189 HB hHeld ⊢
  refine pure_ (i := 0) (N := some 3) (v := ?_) (a' := ?_) #[true, false, false, false, false, false, false, false, false, false, false] rfl rfl (any_of HT_.out (by kernel_rfl)) (fun _ _ _ h => h) (Or.inl ⟨by rfl, ?_⟩) ?_ ?_
  rotate_left
  · intro w'
    go_simp
    with_reducible rfl
  rotate_left
  · simp only [Act.put, List.setIfInBounds_toArray, List.set_cons_zero, List.set_cons_succ, i64_w, i32_w]
    rfl
  refine pure_ (i := 2) (N := some 5) (v := ?_) (a' := ?_) #[true, false, true, false, false, false, false, false, false, false, false] rfl rfl (any_of HT_.out (by kernel_rfl)) (fun _ _ _ h => h) (Or.inl ⟨by rfl, ?_⟩) ?_ ?_
  rotate_left
  · intro w'
    go_simp
    with_reducible rfl
  rotate_left
  · simp only [Act.put, List.setIfInBounds_toArray, List.set_cons_zero, List.set_cons_succ, i64_w, i32_w]
    rfl
  refine pure_ (i := 5) (N := some 8) (v := ?_) (a' := ?_) #[true, false, true, false, false, true, false, false, false, false, false] rfl rfl (any_of HT_.out (by kernel_rfl)) (fun _ _ _ h => h) (Or.inl ⟨by rfl, ?_⟩) ?_ ?_
  rotate_left
  · intro w'
    go_simp
    with_reducible rfl
  rotate_left
  · simp only [Act.put, List.setIfInBounds_toArray, List.set_cons_zero, List.set_cons_succ, i64_w, i32_w]
    rfl
  refine pure_ (i := 7) (N := some 10) (v := ?_) (a' := ?_) #[true, false, true, false, false, true, false, true, false, false, false] rfl rfl (any_of HT_.out (by kernel_rfl)) (fun _ _ _ h => h) (Or.inl ⟨by rfl, ?_⟩) ?_ ?_
  rotate_left
  · intro w'
    go_simp
    with_reducible rfl
  rotate_left
  · simp only [Act.put, List.setIfInBounds_toArray, List.set_cons_zero, List.set_cons_succ, i64_w, i32_w]
    rfl
  refine take_ (i := 1) (N := some 4) (v := ?_) (a' := ?_) #[true, true, true, false, false, true, false, true, false, false, false] rfl rfl (take_ofW HT_.out HW_.out (by kernel_rfl)) (fun _ _ _ h => h) (Or.inl ⟨by rfl, ?_⟩) hHeld ?_ ?_
  rotate_left
  · rintro w' ⟨s0, s1, s2, s3⟩
    go_simp
    with_reducible rfl
  rotate_left
  · simp only [Act.put, List.setIfInBounds_toArray, List.set_cons_zero, List.set_cons_succ, i64_w, i32_w]
    rfl
  refine take_ (i := 3) (N := some 6) (v := ?_) (a' := ?_) #[true, true, true, true, false, true, false, true, false, false, false] rfl rfl (take_ofW HT_.out HW_.out (by kernel_rfl)) (fun _ _ _ h => h) (Or.inl ⟨by rfl, ?_⟩) hHeld ?_ ?_
  rotate_left
  · rintro w' ⟨s0, s1, s2, s3⟩
    go_simp
    with_reducible rfl
  rotate_left
  · simp only [Act.put, List.setIfInBounds_toArray, List.set_cons_zero, List.set_cons_succ, i64_w, i32_w]
    rfl
  refine take_ (i := 6) (N := some 9) (v := ?_) (a' := ?_) #[true, true, true, true, false, true, true, true, false, false, false] rfl rfl (take_ofW HT_.out HW_.out (by kernel_rfl)) (fun _ _ _ h => h) (Or.inl ⟨by rfl, ?_⟩) hHeld ?_ ?_
  rotate_left
  · rintro w' ⟨s0, s1, s2, s3⟩
    go_simp
    with_reducible rfl
  rotate_left
  · simp only [Act.put, List.setIfInBounds_toArray, List.set_cons_zero, List.set_cons_succ, i64_w, i32_w]
    rfl
  refine take_ (i := 8) (N := some 11) (v := ?_) (a' := ?_) #[true, true, true, true, false, true, true, true, true, false, false] rfl rfl (take_ofW HT_.out HW_.out (by kernel_rfl)) (fun _ _ _ h => h) (Or.inl ⟨by rfl, ?_⟩) hHeld ?_ ?_
  rotate_left
  · rintro w' ⟨s0, s1, s2, s3⟩
    go_simp
    with_reducible rfl
  rotate_left
  · simp only [Act.put, List.setIfInBounds_toArray, List.set_cons_zero, List.set_cons_succ, i64_w, i32_w]
    rfl
  refine one_ (i := 4) (N := some 7) #[true, true, true, true, true, true, true, true, true, false, false] rfl rfl (one_of HT_.out (by kernel_rfl)) (by decide) (fun K hK => ?_)
  refine goes_ Tryz.func81 (by kernel_rfl) rfl #[.slice A0_1 l0_1.length c0_1] (by rfl) rfl rfl (by (try simp only [List.map_toArray, List.map_cons, List.map_nil]); first | done | rfl | (simp only [List.length_drop, List.length_take]; rfl)) ?_
  with_reducible refine (ZB.out _ ?side1).mono ?_
  (case side1 => repeat (first | (with_reducible first | exact HB.out | apply below_alloc | apply pw_below_drewN | apply below_drew1) | exact HB.out))
  rintro e w6 ⟨v191, rfl, ho0, hb⟩
  refine ⟨_, rfl, ?_⟩
  have n0_ := Aside0.mk (BOwn.lower ho0 (below_size (by repeat (first | (with_reducible first | exact HB.out | apply below_alloc | apply pw_below_drewN | apply below_drew1 | refine below_set ?_ GE188.out | refine below_set ?_ GE189.out) | exact HB.out))))
  have n1_ := Aside0.mk (blk_below (g := gb188) (o := .cells #[.bool a0_0, .slice A0_1 l0_1.length c0_1, .string a0_2, .string a0_3] 70 (0, 0)) (by (with_reducible repeat (first | refine blk_drewN ?_ _ | refine blk_drew ?_ | refine blk_alloc ?_ _)); exact BK188.out) hb)
  have n2_ := Aside0.mk (blk_below (g := gb189) (o := .cells #[.bool false, .slice none 0 0, .string (⟨#[]⟩ : ByteArray), .string (⟨#[]⟩ : ByteArray)] 46 (0, 0)) (by (with_reducible repeat (first | refine blk_drewN ?_ _ | refine blk_drew ?_ | refine blk_alloc ?_ _)); exact BK189.out) hb)
  have n3_ := Aside0.mk (below_step (by repeat (first | (with_reducible first | exact HB.out | apply below_alloc | apply pw_below_drewN | apply below_drew1 | refine below_set ?_ GE188.out | refine below_set ?_ GE189.out) | exact HB.out)) hb)
  clear BK188
  clear BK189
  clear HB
  have HO192 := n0_
  have BK188 := n1_
  have BK189 := n2_
  have HB := n3_
  clear n0_ n1_ n2_ n3_
  (try clear hb)
  (try clear hb2)
  (try clear hk)
  (try clear hi)
  (try clear ho0)
  obtain ⟨Ao7, co7, eo7, _, _⟩ := HO192.out.slice
  subst eo7
  refine hK.out _ _ ⟨(blk_cell BK188.out 0).trans rfl, (blk_cell BK188.out 1).trans rfl, (blk_cell BK188.out 2).trans rfl, (blk_cell BK188.out 3).trans rfl⟩ (fun hHeld => ?_)
  clear hK K
  refine norm_ (a' := ?_) ?_ ?_
  rotate_left
  · show Act.put _ (some 7) _ = _
    simp only [Act.put, List.setIfInBounds_toArray, List.set_cons_zero, List.set_cons_succ, i64_w, i32_w]
    rfl
  refine pure_ (i := 9) (N := some 12) (v := ?_) (a' := ?_) #[true, true, true, true, true, true, true, true, true, true, false] rfl rfl (any_of HT_.out (by kernel_rfl)) (fun _ _ _ h => h) (Or.inl ⟨by rfl, ?_⟩) ?_ ?_
  rotate_left
  · intro w'
    go_simp
    with_reducible rfl
  rotate_left
  · simp only [Act.put, List.setIfInBounds_toArray, List.set_cons_zero, List.set_cons_succ, i64_w, i32_w]
    rfl
  refine one_ (i := 10) (N := none) #[true, true, true, true, true, true, true, true, true, true, true] rfl rfl (one_of HT_.out (by kernel_rfl)) (by decide) (fun K hK => ?_)
  have hs8 : w6.cell? ⟨gb189, 0, none⟩ = some (.bool false) := (blk_cell BK189.out 0).trans rfl
  have hfs8 := blk_frozen BK189.out 0
  have hns8_0 := NB188_189.out
  have hms8_0 := NB189_188.out
  have hs9 : w6.cell? ⟨gb189, 1, none⟩ = some (.slice none 0 0) := (blk_cell BK189.out 1).trans rfl
  have hfs9 := blk_frozen BK189.out 1
  have hns9_0 := NB188_189.out
  have hms9_0 := NB189_188.out
  have hs10 : w6.cell? ⟨gb189, 2, none⟩ = some (.string (⟨#[]⟩ : ByteArray)) := (blk_cell BK189.out 2).trans rfl
  have hfs10 := blk_frozen BK189.out 2
  have hns10_0 := NB188_189.out
  have hms10_0 := NB189_188.out
  have hs11 : w6.cell? ⟨gb189, 3, none⟩ = some (.string (⟨#[]⟩ : ByteArray)) := (blk_cell BK189.out 3).trans rfl
  have hfs11 := blk_frozen BK189.out 3
  have hns11_0 := NB188_189.out
  have hms11_0 := NB189_188.out
  refine skip_ (w1 := ?_) (by rfl) rfl ?_ ?_
  rotate_left
  · go_simp
    rfl
  refine hK.out _ _ ⟨((cell_far (p := ⟨gb189, _, none⟩) NB188_189.out _).trans (((cell_far (p := ⟨gb189, _, none⟩) NB188_189.out _).trans (((cell_far (p := ⟨gb189, _, none⟩) NB188_189.out _).trans (((cell_far (p := ⟨gb189, _, none⟩) NB188_189.out _).trans (hHeld.1)))))))), ((cell_far (p := ⟨gb189, _, none⟩) NB188_189.out _).trans (((cell_far (p := ⟨gb189, _, none⟩) NB188_189.out _).trans (((cell_far (p := ⟨gb189, _, none⟩) NB188_189.out _).trans (((cell_far (p := ⟨gb189, _, none⟩) NB188_189.out _).trans (hHeld.2.1)))))))), ((cell_far (p := ⟨gb189, _, none⟩) NB188_189.out _).trans (((cell_far (p := ⟨gb189, _, none⟩) NB188_189.out _).trans (((cell_far (p := ⟨gb189, _, none⟩) NB188_189.out _).trans (((cell_far (p := ⟨gb189, _, none⟩) NB188_189.out _).trans (hHeld.2.2.1)))))))), ((cell_far (p := ⟨gb189, _, none⟩) NB188_189.out _).trans (((cell_far (p := ⟨gb189, _, none⟩) NB188_189.out _).trans (((cell_far (p := ⟨gb189, _, none⟩) NB188_189.out _).trans (((cell_far (p := ⟨gb189, _, none⟩) NB188_189.out _).trans (hHeld.2.2.2))))))))⟩ (fun hHeld => ?_)
  clear hK K
  refine done_ (done_of HT_.out (by kernel_rfl)) ?_
  try go_wp2
  refine bodyPost_ret (results_cell_row rfl _ _ gb189 46 #[.bool a0_0, .slice Ao7 (zsOf l0_1).length co7, .string a0_2, .string a0_3] (0, 0) _ rfl (by (with_reducible repeat (first | refine blk_drewN ?_ _ | refine blk_drew ?_ | refine blk_alloc ?_ _)); refine blk_put (cs := #[.bool a0_0, .slice Ao7 (zsOf l0_1).length co7, .string a0_2, .string (⟨#[]⟩ : ByteArray)]) ?_ 3 _ rfl; (with_reducible repeat (first | refine blk_drewN ?_ _ | refine blk_drew ?_ | refine blk_alloc ?_ _)); refine blk_put (cs := #[.bool a0_0, .slice Ao7 (zsOf l0_1).length co7, .string (⟨#[]⟩ : ByteArray), .string (⟨#[]⟩ : ByteArray)]) ?_ 2 _ rfl; (with_reducible repeat (first | refine blk_drewN ?_ _ | refine blk_drew ?_ | refine blk_alloc ?_ _)); refine blk_put (cs := #[.bool a0_0, .slice none 0 0, .string (⟨#[]⟩ : ByteArray), .string (⟨#[]⟩ : ByteArray)]) ?_ 1 _ rfl; (with_reducible repeat (first | refine blk_drewN ?_ _ | refine blk_drew ?_ | refine blk_alloc ?_ _)); refine blk_put (cs := #[.bool false, .slice none 0 0, .string (⟨#[]⟩ : ByteArray), .string (⟨#[]⟩ : ByteArray)]) ?_ 0 _ rfl; (with_reducible repeat (first | refine blk_drewN ?_ _ | refine blk_drew ?_ | refine blk_alloc ?_ _)); exact BK189.out) Tryz.underlying46 rfl (by kernel_rfl)) rfl ?_
  exact ⟨_, _, rfl, BOwn.put4 HO192.out BK189.out (by decide) (by decide) (.bool a0_0) (.slice Ao7 (zsOf l0_1).length co7) (.string a0_2) (.string a0_3), by repeat (first | (with_reducible first | exact HB.out | apply below_alloc | apply pw_below_drewN | apply below_drew1 | refine below_set ?_ GE188.out | refine below_set ?_ GE189.out) | exact HB.out)⟩
end Go.Proofs.YtdliagehkiihpaaGreatDoor.Giv

namespace Go.Proofs.YtdliagehkiihpaaGreatDoor.Giv
open Go.RowKit Go.Proofs.YtdliagehkiihpaaGreatDoorW.PrintWords Go.Proofs.YtdliagehkiihpaaGreatDoorW.PrintLast Go.Proofs.YtdliagehkiihpaaGreatDoor.Pk Go.Proofs.YtdliagehkiihpaaGreatDoor.Ord Go.Proofs.YtdliagehkiihpaaGreatDoor.QU
set_option linter.unusedVariables false
set_option linter.unusedSimpArgs false

set_option maxRecDepth 100000 in
set_option maxHeartbeats 4000000 in
theorem smMake_calls (lv0 : Bool) (A0 : Option Addr) (n0 c0 : Nat) (l : List S109) (b0 o0 : ByteArray) (w : World) (hn : n0 = l.length) (hr : Kd.C k109 w A0 l.length l) (hl : l.length ≤ 100000) (hs : ∀ x ∈ l, x.f1.size ≤ 100000) :
    Calls Tryz.prog 43 #[.agg #[.bool lv0, .slice A0 n0 c0, .string b0, .string o0]] w fun e w' => ∃ (B : Option Addr) (d : Nat), e = .returned (.agg #[.bool lv0, .slice B n0 d, .string b0, .string o0]) ∧ BOwn w' w.heap.size (.slice B n0 d) (zsOf l) ∧ Below w.heap.size w w' := by
  have b1 := below_alloc (Below.refl w.heap.size w) (Obj.cells #[Value.bool lv0, .slice A0 n0 c0, .string b0, .string o0] 70)
  have b2 := below_alloc b1 (Obj.cells #[Value.bool false, .slice none 0 0, .string ⟨#[]⟩, .string ⟨#[]⟩] 48)
  have k1 : ((w.alloc (Obj.cells #[Value.bool lv0, .slice A0 n0 c0, .string b0, .string o0] 70)).alloc (Obj.cells #[Value.bool false, .slice none 0 0, .string ⟨#[]⟩, .string ⟨#[]⟩] 48)).heap[w.heap.size]? = some (Obj.cells #[Value.bool lv0, .slice A0 n0 c0, .string b0, .string o0] 70) := blk_alloc (blk_new w _) _
  have m1 : ((w.alloc (Obj.cells #[Value.bool lv0, .slice A0 n0 c0, .string b0, .string o0] 70)).alloc (Obj.cells #[Value.bool false, .slice none 0 0, .string ⟨#[]⟩, .string ⟨#[]⟩] 48)).heap[w.heap.size + 1]? = some (Obj.cells #[Value.bool false, .slice none 0 0, .string ⟨#[]⟩, .string ⟨#[]⟩] 48) := by
    have := blk_new (w.alloc (Obj.cells #[Value.bool lv0, .slice A0 n0 c0, .string b0, .string o0] 70)) (Obj.cells #[Value.bool false, .slice none 0 0, .string ⟨#[]⟩, .string ⟨#[]⟩] 48)
    simpa using this
  have p0 := blk_cell k1 0
  have p1 := blk_cell k1 1
  have p2 := blk_cell k1 2
  have p3 := blk_cell k1 3
  have zl := zzLike_calls lv0 A0 n0 c0 l b0 o0 _ hn (Kd.C_below hr b2) hl hs
  rw [zsOf_len, ← hn] at zl
  have B2 := Aside0.mk b2
  have M1 := Aside0.mk m1
  clear b1 b2 k1 m1 hr hl hs hn
  go_enter Tryz.func43, Tryz.ntmps43
  go_wp2_with (first | (go_at_call 62; (with_reducible refine zl.mono ?_); rintro e w1 ⟨B, d, rfl, ho, d1⟩; have HO := Aside0.mk (BOwn.lower ho B2.out.size); have D1 := Aside0.mk (below_then B2.out B2.out.size d1); have m2 := (d1.block _ (blk_lt M1.out)).trans M1.out; have M2 := Aside0.mk m2; have q0 := blk_cell m2 0; have q1 := blk_cell m2 1; have q2 := blk_cell m2 2; have q3 := blk_cell m2 3; have f0 := Lib.frozen_of_heap m2 0; have f1 := Lib.frozen_of_heap m2 1; have f2 := Lib.frozen_of_heap m2 2; have f3 := Lib.frozen_of_heap m2 3; clear ho d1 m2))
  have M3 := Aside0.mk (sx_put4 M2.out (.bool lv0) (.slice B n0 d) (.string b0) (.string o0))
  refine bodyPost_ret (results_cell_row rfl _ _ (w.heap.size + 1) 48 #[.bool lv0, .slice B n0 d, .string b0, .string o0] (0, 0) _ rfl M3.out Tryz.underlying48 rfl (by kernel_rfl)) rfl ?_
  exact ⟨B, d, rfl, BOwn.put4 HO.out M2.out (by decide) (by decide) _ _ _ _, below_set (below_set (below_set (below_set D1.out (Nat.le_succ _)) (Nat.le_succ _)) (Nat.le_succ _)) (Nat.le_succ _)⟩
theorem lkS8 {w a w1 : World} {g h : Nat} {x0 x1 x2 x3 y0 y1 y2 y3 : Value} (hS : a.cell? ⟨g, 0, none⟩ = some x0 ∧ a.cell? ⟨g, 1, none⟩ = some x1 ∧ a.cell? ⟨g, 2, none⟩ = some x2 ∧ a.cell? ⟨g, 3, none⟩ = some x3 ∧ a.cell? ⟨h, 0, none⟩ = some y0 ∧ a.cell? ⟨h, 1, none⟩ = some y1 ∧ a.cell? ⟨h, 2, none⟩ = some y2 ∧ a.cell? ⟨h, 3, none⟩ = some y3 ∧ Below w.heap.size w a) (d : Below a.heap.size a w1) : w1.cell? ⟨g, 0, none⟩ = some x0 ∧ w1.cell? ⟨g, 1, none⟩ = some x1 ∧ w1.cell? ⟨g, 2, none⟩ = some x2 ∧ w1.cell? ⟨g, 3, none⟩ = some x3 ∧ w1.cell? ⟨h, 0, none⟩ = some y0 ∧ w1.cell? ⟨h, 1, none⟩ = some y1 ∧ w1.cell? ⟨h, 2, none⟩ = some y2 ∧ w1.cell? ⟨h, 3, none⟩ = some y3 ∧ Below w.heap.size w w1 :=
  ⟨(d.cell (World.block_lt_of_cell? a _ hS.1)).trans hS.1, (d.cell (World.block_lt_of_cell? a _ hS.2.1)).trans hS.2.1, (d.cell (World.block_lt_of_cell? a _ hS.2.2.1)).trans hS.2.2.1, (d.cell (World.block_lt_of_cell? a _ hS.2.2.2.1)).trans hS.2.2.2.1, (d.cell (World.block_lt_of_cell? a _ hS.2.2.2.2.1)).trans hS.2.2.2.2.1, (d.cell (World.block_lt_of_cell? a _ hS.2.2.2.2.2.1)).trans hS.2.2.2.2.2.1, (d.cell (World.block_lt_of_cell? a _ hS.2.2.2.2.2.2.1)).trans hS.2.2.2.2.2.2.1, (d.cell (World.block_lt_of_cell? a _ hS.2.2.2.2.2.2.2.1)).trans hS.2.2.2.2.2.2.2.1, below_then hS.2.2.2.2.2.2.2.2 hS.2.2.2.2.2.2.2.2.size d⟩
set_option maxRecDepth 100000 in
set_option maxHeartbeats 4000000 in
theorem smIface_calls (lv0 lv1 : Bool) (A0 A1 : Option Addr) (n0 c0 n1 c1 : Nat) (b0 o0 b1 o1 : ByteArray) (r : Int) (w : World) (c : ∀ w', Below w.heap.size w w' → Calls Tryz.prog 49 #[.agg #[.bool lv0, .slice A0 n0 c0, .string b0, .string o0], .agg #[.bool lv1, .slice A1 n1 c1, .string b1, .string o1]] w' fun e w'' => e = .returned (.int .i64 r) ∧ Below w'.heap.size w' w'') :
    Calls Tryz.prog 45 #[.agg #[.bool lv0, .slice A0 n0 c0, .string b0, .string o0], .iface 48 (.agg #[.bool lv1, .slice A1 n1 c1, .string b1, .string o1])] w fun e w' => e = .returned (.tuple #[.int .i64 r, .nilIface]) ∧ Below w.heap.size w w' := by
  have hta := fun v w => run_assert_is Tryz.underlying48 86 v w
  have h1 := below_alloc (Below.refl w.heap.size w) (Obj.cells #[Value.bool lv0, .slice A0 n0 c0, .string b0, .string o0] 48)
  have H1 := Aside0.mk h1
  clear h1
  go_enter Tryz.func45, Tryz.ntmps45
  go_wp2_with (first | (go_at_call 49; (with_reducible refine (c _ ?hz).mono ?_); (case hz => exact below_alloc H1.out _); rintro e w1 ⟨rfl, hb1⟩; have HB := Aside0.mk (below_then (below_alloc H1.out _) (below_alloc H1.out _).size hb1); clear hb1))
  go_ret2
  exact ⟨rfl, HB.out⟩
set_option maxRecDepth 100000 in
set_option maxHeartbeats 8000000 in
theorem smImpl_calls (lv0 lv1 : Bool) (A0 A1 : Option Addr) (n0 c0 n1 c1 : Nat) (l0 l1 : List S64) (b0 o0 b1 o1 : ByteArray) (w : World) (e0 : n0 = l0.length) (e1 : n1 = l1.length) (h0 : Kd.C k64 w A0 l0.length l0) (h1 : Kd.C k64 w A1 l1.length l1) (hc0 : l0.length ≤ c0) (hc1 : l1.length ≤ c1) (q0 : small l0 = true) (q1 : small l1 = true) (s0 : b0.size ≤ 40000) (s1 : b1.size ≤ 40000) (hL : Laid w) :
    Calls Tryz.prog 21 #[.agg #[.bool lv0, .slice A0 n0 c0, .string b0, .string o0], .agg #[.bool lv1, .slice A1 n1 c1, .string b1, .string o1]] w fun e w' => e = .returned (.tuple #[.int .i64 (smC (zn l0) (zn l1) b0.toList b1.toList), .bool true]) ∧ Below w.heap.size w w' := by
  have lk0 : ∀ w' : World, Below w.heap.size w w' → Calls Tryz.prog 44 #[.agg #[.bool lv0, .slice A0 n0 c0, .string b0, .string o0]] w' fun e w'' => ∃ (B : Option Addr) (d : Nat), e = .returned (.agg #[.bool lv0, .slice B n0 d, .string b0, .string o0]) ∧ Kd.C k109 w'' B (zi l0).length (zi l0) ∧ Below w'.heap.size w' w'' := fun w' d => implLike_calls lv0 A0 c0 n0 l0 b0 o0 w' e0 (Kd.C_below h0 d) hc0 (small_len q0)
  have mk0 : ∀ (B : Option Addr) (d : Nat) (w' : World), Kd.C k109 w' B (zi l0).length (zi l0) → Calls Tryz.prog 43 #[.agg #[.bool lv0, .slice B n0 d, .string b0, .string o0]] w' fun e w'' => ∃ (B' : Option Addr) (d' : Nat), e = .returned (.agg #[.bool lv0, .slice B' n0 d', .string b0, .string o0]) ∧ BOwn w'' w'.heap.size (.slice B' n0 d') (zn l0) ∧ Below w'.heap.size w' w'' := fun B d w' h => by
    have := smMake_calls lv0 B n0 d (zi l0) b0 o0 w' (by rw [zi_len]; exact e0) h (by rw [zi_len]; exact small_len q0) (small_all q0)
    rwa [zsOf_zi] at this
  have lk1 : ∀ w' : World, Below w.heap.size w w' → Calls Tryz.prog 44 #[.agg #[.bool lv1, .slice A1 n1 c1, .string b1, .string o1]] w' fun e w'' => ∃ (B : Option Addr) (d : Nat), e = .returned (.agg #[.bool lv1, .slice B n1 d, .string b1, .string o1]) ∧ Kd.C k109 w'' B (zi l1).length (zi l1) ∧ Below w'.heap.size w' w'' := fun w' d => implLike_calls lv1 A1 c1 n1 l1 b1 o1 w' e1 (Kd.C_below h1 d) hc1 (small_len q1)
  have mk1 : ∀ (B : Option Addr) (d : Nat) (w' : World), Kd.C k109 w' B (zi l1).length (zi l1) → Calls Tryz.prog 43 #[.agg #[.bool lv1, .slice B n1 d, .string b1, .string o1]] w' fun e w'' => ∃ (B' : Option Addr) (d' : Nat), e = .returned (.agg #[.bool lv1, .slice B' n1 d', .string b1, .string o1]) ∧ BOwn w'' w'.heap.size (.slice B' n1 d') (zn l1) ∧ Below w'.heap.size w' w'' := fun B d w' h => by
    have := smMake_calls lv1 B n1 d (zi l1) b1 o1 w' (by rw [zi_len]; exact e1) h (by rw [zi_len]; exact small_len q1) (small_all q1)
    rwa [zsOf_zi] at this
  have cp : ∀ (B0 B1 : Option Addr) (d0 d1 : Nat) (w' : World), Below w.heap.size w w' → BOwn w' w.heap.size (.slice B0 n0 d0) (zn l0) → BOwn w' w.heap.size (.slice B1 n1 d1) (zn l1) → Calls Tryz.prog 45 #[.agg #[.bool lv0, .slice B0 n0 d0, .string b0, .string o0], .iface 48 (.agg #[.bool lv1, .slice B1 n1 d1, .string b1, .string o1])] w' fun e w'' => e = .returned (.tuple #[.int .i64 (smC (zn l0) (zn l1) b0.toList b1.toList), .nilIface]) ∧ Below w'.heap.size w' w'' := fun B0 B1 d0 d1 w' d g0 g1 => by
    obtain ⟨_, _, x0, _, r0⟩ := g0.slice
    obtain ⟨_, _, x1, _, r1⟩ := g1.slice
    injection x0 with y0 _ _
    injection x1 with y1 _ _
    subst y0
    subst y1
    exact smIface_calls lv0 lv1 B0 B1 n0 d0 n1 d1 b0 o0 b1 o1 _ w' (fun w'' d' => smCompare_calls lv0 lv1 B0 B1 n0 d0 n1 d1 (zn l0) (zn l1) b0 o0 b1 o1 w'' (by rw [zn_len]; exact e0) (by rw [zn_len]; exact e1) (r0.below d') (r1.below d') (by rw [zn_len]; exact small_len q0) (by rw [zn_len]; exact small_len q1) s0 s1 (hL.below (below_then d d.size d')))
  have x1 := below_alloc (Below.refl w.heap.size w) (Obj.cells #[Value.bool lv0, .slice A0 n0 c0, .string b0, .string o0] 37)
  have x2 := below_alloc x1 (Obj.cells #[Value.bool lv1, .slice A1 n1 c1, .string b1, .string o1] 37)
  have k1 : ((w.alloc (Obj.cells #[Value.bool lv0, .slice A0 n0 c0, .string b0, .string o0] 37)).alloc (Obj.cells #[Value.bool lv1, .slice A1 n1 c1, .string b1, .string o1] 37)).heap[w.heap.size]? = some (Obj.cells #[Value.bool lv0, .slice A0 n0 c0, .string b0, .string o0] 37) := blk_alloc (blk_new w _) _
  have m1 : ((w.alloc (Obj.cells #[Value.bool lv0, .slice A0 n0 c0, .string b0, .string o0] 37)).alloc (Obj.cells #[Value.bool lv1, .slice A1 n1 c1, .string b1, .string o1] 37)).heap[w.heap.size + 1]? = some (Obj.cells #[Value.bool lv1, .slice A1 n1 c1, .string b1, .string o1] 37) := by
    have := blk_new (w.alloc (Obj.cells #[Value.bool lv0, .slice A0 n0 c0, .string b0, .string o0] 37)) (Obj.cells #[Value.bool lv1, .slice A1 n1 c1, .string b1, .string o1] 37)
    simpa using this
  obtain ⟨W, eW⟩ : ∃ W, W = ((w.alloc (Obj.cells #[Value.bool lv0, .slice A0 n0 c0, .string b0, .string o0] 37)).alloc (Obj.cells #[Value.bool lv1, .slice A1 n1 c1, .string b1, .string o1] 37)) := ⟨_, rfl⟩
  have HS : W.cell? ⟨w.heap.size, 0, none⟩ = some (.bool lv0) ∧ W.cell? ⟨w.heap.size, 1, none⟩ = some (.slice A0 n0 c0) ∧ W.cell? ⟨w.heap.size, 2, none⟩ = some (.string b0) ∧ W.cell? ⟨w.heap.size, 3, none⟩ = some (.string o0) ∧ W.cell? ⟨w.heap.size + 1, 0, none⟩ = some (.bool lv1) ∧ W.cell? ⟨w.heap.size + 1, 1, none⟩ = some (.slice A1 n1 c1) ∧ W.cell? ⟨w.heap.size + 1, 2, none⟩ = some (.string b1) ∧ W.cell? ⟨w.heap.size + 1, 3, none⟩ = some (.string o1) ∧ Below w.heap.size w W := by
    rw [eW]
    exact ⟨blk_cell k1 0, blk_cell k1 1, blk_cell k1 2, blk_cell k1 3, blk_cell m1 0, blk_cell m1 1, blk_cell m1 2, blk_cell m1 3, x2⟩
  have HD := lkS8 HS (Below.drew (Below.refl _ _))
  have HE := HD.2.2.2.2.2.2.2.2
  have hnn := fun w => run_nil_nil Tryz.underlying41 w
  clear x1 x2 k1 m1 h0 h1 hc0 hc1 q0 q1 s0 s1 hL e0 e1
  generalize (smC (zn l0) (zn l1) b0.toList b1.toList) = r at *
  generalize zn l0 = z0 at *
  generalize zn l1 = z1 at *
  generalize zi l0 = i0 at *
  generalize zi l1 = i1 at *
  go_enter Tryz.func21, Tryz.ntmps21
  go_wp2_with fail
  rw [← eW]
  clear eW
  go_region_held3 (fun w' => w'.cell? ⟨w.heap.size, 0, none⟩ = some (.bool lv0) ∧ w'.cell? ⟨w.heap.size, 1, none⟩ = some (.slice A0 n0 c0) ∧ w'.cell? ⟨w.heap.size, 2, none⟩ = some (.string b0) ∧ w'.cell? ⟨w.heap.size, 3, none⟩ = some (.string o0) ∧ w'.cell? ⟨w.heap.size + 1, 0, none⟩ = some (.bool lv1) ∧ w'.cell? ⟨w.heap.size + 1, 1, none⟩ = some (.slice A1 n1 c1) ∧ w'.cell? ⟨w.heap.size + 1, 2, none⟩ = some (.string b1) ∧ w'.cell? ⟨w.heap.size + 1, 3, none⟩ = some (.string o1) ∧ Below w.heap.size w w') (first | (with_reducible assumption) | (with_reducible exact lkS8 (by with_reducible assumption) (by with_reducible assumption))) (first | (go_at_call 44; (with_reducible refine (lk0 _ HE).mono ?_); rintro e w1 ⟨B, d, rfl, r1, g1⟩; have HE1 := below_then HE HE.size g1) | (go_at_call 44; (with_reducible refine (lk1 _ HE2).mono ?_); rintro e w3 ⟨B3, d3, rfl, r3, g3⟩; have HE3 := below_then HE2 HE2.size g3; have R23 := R2.below g3) | (go_at_call 43; (with_reducible refine (mk0 _ _ _ r1).mono ?_); rintro e w2 ⟨B2, d2, rfl, r2, g2⟩; have HE2 := below_then HE1 HE1.size g2; have R2 := r2.lower HE1.size) | (go_at_call 43; (with_reducible refine (mk1 _ _ _ r3).mono ?_); rintro e w4 ⟨B4, d4, rfl, r4, g4⟩; have HE4 := below_then HE3 HE3.size g4; have R24 := R23.below g4; have R4 := r4.lower HE3.size) | (go_at_call 45; (with_reducible refine (cp _ _ _ _ _ HE4 R24 R4).mono ?_); rintro e w5 ⟨rfl, g5⟩; have HE5 := below_then HE4 HE4.size g5))
  go_wp2_with fail
  go_quiet (fail)
  go_wp2_with fail
  go_ret2
  exact ⟨rfl, bel_drewN HE5 _⟩
end Go.Proofs.YtdliagehkiihpaaGreatDoor.Giv

namespace Go.Proofs.YtdliagehkiihpaaGreatDoor.Giv
open Go.RowKit Go.Proofs.YtdliagehkiihpaaGreatDoorW.PrintWords Go.Proofs.YtdliagehkiihpaaGreatDoorW.PrintLast Go.Proofs.YtdliagehkiihpaaGreatDoor.Pk Go.Proofs.YtdliagehkiihpaaGreatDoor.Ord Go.Proofs.YtdliagehkiihpaaGreatDoor.QU
set_option linter.unusedVariables false
set_option linter.unusedSimpArgs false
def impl_LikeParse.f (a0 : ByteArray) : Option (Bool × List S64 × ByteArray × ByteArray) := if a0.size ≤ 40000 then some (Slk.lead a0.toList, pn (Slk.parseR a0).1, bs (Slk.parseR a0).2, a0) else none
theorem impl_LikeParse.calls (a0 : ByteArray) (r1 : Bool) (r2 : List S64) (r3 r4 : ByteArray) (w : World) (h : impl_LikeParse.f a0 = some (r1, r2, r3, r4)) (hL : Laid w) :
    Calls Tryz.prog 22 #[.string a0] w fun e w' => ∃ v : Value, e = .returned (.agg #[.bool r1, v, .string r3, .string r4]) ∧ Kd.R k64 64 w' w.heap.size (fun _ => True) v r2 ∧ Below w.heap.size w w' := by
  unfold impl_LikeParse.f at h
  split at h
  · next hc =>
    obtain ⟨e1, h1⟩ := Prod.mk.inj (Option.some.inj h)
    obtain ⟨e2, h2⟩ := Prod.mk.inj h1
    obtain ⟨e3, e4⟩ := Prod.mk.inj h2
    subst e1
    subst e2
    subst e3
    subst e4
    exact likeParse_calls a0 w hc hL
  · exact absurd h (by simp)
def impl_SemverCompare.f (a0_0 : Bool) (l0_1 : List S64) (a0_2 a0_3 : ByteArray) (a1_0 : Bool) (l1_1 : List S64) (a1_2 a1_3 : ByteArray) : Option (Int × Bool) := if (small l0_1 && small l1_1 && decide (a0_2.size ≤ 40000) && decide (a1_2.size ≤ 40000)) = true then some (smC (zn l0_1) (zn l1_1) a0_2.toList a1_2.toList, true) else none
theorem impl_SemverCompare.calls (a0_0 : Bool) (A0_1 : Option Addr) (c0_1 : Nat) (l0_1 : List S64) (a0_2 a0_3 : ByteArray) (a1_0 : Bool) (A1_1 : Option Addr) (c1_1 : Nat) (l1_1 : List S64) (a1_2 a1_3 : ByteArray) (r1 : Int) (r2 : Bool) (w : World) (hr0 : Kd.C k64 w A0_1 l0_1.length l0_1) (hc0 : l0_1.length ≤ c0_1) (hr1 : Kd.C k64 w A1_1 l1_1.length l1_1) (hc1 : l1_1.length ≤ c1_1) (h : impl_SemverCompare.f a0_0 l0_1 a0_2 a0_3 a1_0 l1_1 a1_2 a1_3 = some (r1, r2)) (hL : Laid w) :
    Calls Tryz.prog 21 #[.agg #[.bool a0_0, .slice A0_1 l0_1.length c0_1, .string a0_2, .string a0_3], .agg #[.bool a1_0, .slice A1_1 l1_1.length c1_1, .string a1_2, .string a1_3]] w fun e w' => e = .returned (.tuple #[.int .i64 r1, .bool r2]) ∧ Below w.heap.size w w' := by
  unfold impl_SemverCompare.f at h
  split at h
  · next hc =>
    obtain ⟨rfl, rfl⟩ := Prod.mk.inj (Option.some.inj h)
    rw [Bool.and_eq_true, Bool.and_eq_true, Bool.and_eq_true] at hc
    exact smImpl_calls a0_0 a1_0 A0_1 A1_1 l0_1.length c0_1 l1_1.length c1_1 l0_1 l1_1 a0_2 a0_3 a1_2 a1_3 w rfl rfl hr0 hr1 hc0 hc1 hc.1.1.1 hc.1.1.2 (of_decide_eq_true hc.1.2) (of_decide_eq_true hc.2) hL
  · exact absurd h (by simp)
end Go.Proofs.YtdliagehkiihpaaGreatDoor.Giv
