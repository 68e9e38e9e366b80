/- Contracts by hand: numbers as plain data.
   Contract by hand: versions like those of SemVer told as plain parts (told). Turned from the kit's print of impl.plainLike by wip/tool/gentd.py.
   Contract by hand: impl.LikeParse, whatever the text.
   impl.LikeParse as a function that is told, where the tables of utf8 are laid beside the errors. -/
import Derived.Test.YtjcebbcceohmkaaDoorZY
import Derived.Test.YtjcebbcceohmkaaDoorQLx3p
import Derived.Outline
import Derived.Lib.SmallJoins
namespace Go.Proofs.YtjcebbcceohmkaaDoor.Giv
open Go.RowKit Go.Proofs.YtjcebbcceohmkaaDoorW.PrintWords Go.Proofs.YtjcebbcceohmkaaDoorW.PrintLast Go.Proofs.YtjcebbcceohmkaaDoor.Pk Go.Proofs.YtjcebbcceohmkaaDoor.Ord
set_option linter.unusedVariables false
set_option linter.unusedSimpArgs false

/-- Numbers as plain data. -/
def pl (zs : List Int) : List QL.S89 := zs.map (fun z => ⟨decide (z < 0), bs (Lb.mag z.natAbs)⟩)
theorem pl_snoc (zs : List Int) (z : Int) : pl (zs ++ [z]) = pl zs ++ [⟨decide (z < 0), bs (Lb.mag z.natAbs)⟩] := by simp [pl]
theorem pl_len (zs : List Int) : (pl zs).length = zs.length := by simp [pl]
theorem pl_info : (Tryd.prog.info? 89).map (fun i => (i.zero, i.size, i.bytes)) = some (some (.agg #[(.bool false), (.string ⟨#[]⟩)]), 2, 24) := by kernel_rfl
set_option maxRecDepth 100000 in
set_option maxHeartbeats 4000000 in
theorem zzPlains_calls (A : Option Addr) (c : Nat) (zs : List Int) (w : World) (h : BRow w A zs) (hl : zs.length ≤ 100000) :
    Calls Tryd.prog 40 #[.slice A zs.length c] w fun e w' => ∃ v0_ : Value, e = .returned v0_ ∧ Kd.R QL.k89 89 w' w.heap.size (fun _ => True) v0_ (pl zs) ∧ Below w.heap.size w w' := by
  go_enter Tryd.func40, Tryd.ntmps40
  go_wp2_with fail
  go_loopw [3, 8] (fun v3 v8 wr => ∃ k : Nat, v8 = .int .i64 k ∧ k ≤ zs.length ∧ Kd.R QL.k89 89 wr w.heap.size (fun _ => True) v3 (pl (zs.take k)) ∧ Below w.heap.size w wr) (fun v3 v8 wr => zs.length - (intOf v8).toNat)
  case atStart => exact ⟨0, rfl, Nat.zero_le _, Kd.R_nil _ _ _ _ _, Below.refl _ _⟩
  case round =>
    obtain ⟨k, rfl, hk, ho, hb⟩ := hrel
    have HO := Aside0.mk ho
    have BL := Aside0.mk hb
    have BS := Aside0.mk hb.size
    by_cases hlt : k < zs.length
    · obtain ⟨ad, p, rfl, hc, hp⟩ := h.at_ k hlt
      have cx := pw_cell_below hb hc
      have f4 : (k : Int) < (zs.length : Int) := Int.ofNat_lt.2 hlt
      have KL := Aside0.mk hlt
      have LIM := Aside0.mk (show ((pl (zs.take k)).length + 1) * 24 ≤ 140737488355328 by rw [pl_len, List.length_take]; omega)
      have NX := Aside0.mk (show pl (zs.take k) ++ [⟨decide (zs[k] < 0), bs (Lb.mag zs[k].natAbs)⟩] = pl (zs.take (k + 1)) by rw [List.take_succ_eq_append_getElem hlt, pl_snoc])
      have wk : wrap64 ((k : Int) + 1) = ((k + 1 : Nat) : Int) := Pk.wr k (by omega)
      have pc := plain_calls _ p _ (hp.below hb)
      generalize zs[k]'hlt = z at *
      clear ho hb h hc hp hlt hk
      go_wp2_with (first | (go_at_call 51; (with_reducible refine pc.mono ?_); rintro e w1 ⟨rfl, d1⟩; have B1 := Aside0.mk (below_then BL.out BS.out d1); have BS1 := Aside0.mk (Nat.le_trans BS.out d1.size); have HO1 := Aside0.mk (Kd.R_below HO.out d1); clear d1) | ((with_reducible refine gate_builtin (b := .append) (xs := #[.tmp 12, .tmp 15]) rfl ?_); at_builtin; refine Kd.R_append QL.k89 (w0 := w) w.heap.size rfl (.tmp 12) (.tmp 15) 35 89 (.agg #[(.bool false), (.string ⟨#[]⟩)]) 24 rfl Tryd.underlying35 pl_info rfl (by decide) (by omega) u3 (pl (zs.take k)) (⟨decide (z < 0), bs (Lb.mag z.natAbs)⟩ : QL.S89) [.bool (decide (z < 0)), .string (bs (Lb.mag z.natAbs))] (fun _ => True) (fun _ => False) rfl (by first | (go_simp; done) | (go_simp; rfl)) ?aP (fun _ hk => hk.elim) ?aF ?aO ?aB ?aS ?aL ?_; (case aP => exact QL.k89_mkM _ _ _ (⟨decide (z < 0), bs (Lb.mag z.natAbs)⟩ : QL.S89)); (case aF => exact (fun _ _ => trivial)); (case aO => exact HO1.out); (case aB => exact B1.out); (case aS => exact BS1.out); (case aL => exact LIM.out); intro v5 w5 ho hb hg hat; have HO := Aside0.mk ho; have BL2 := Aside0.mk hb; clear ho hb hg hat))
      refine ⟨⟨k + 1, by simp, KL.out, by rw [← NX.out]; exact HO.out, BL2.out⟩, by simp only [intOf]; have := KL.out; omega⟩
    · have ek : k = zs.length := by omega
      have f4 : ¬ (k : Int) < (zs.length : Int) := by omega
      rw [ek, List.take_length] at ho
      have HO := Aside0.mk ho
      clear ho hb hk hlt ek
      go_wp2_with fail
      go_ret
      exact ⟨_, rfl, HO.out, BL.out⟩
/-- Numbers as the statements tell them. -/
def pn (zs : List Int) : List QL.S42 := zs.map (fun z => ⟨decide (z < 0), bs (Lb.mag z.natAbs)⟩)
theorem plains_ev (zs : List Int) (hl : zs.length ≤ 100000) (d : Nat) : ∀ i : Nat, i + d = zs.length → Ev (fun k => QL.impl_plains.l0 k (pn (zs.take i)) (pl zs) ((pl zs).length : Int) (i : Int)) (pn zs) := by
  induction d with
  | zero =>
    intro i hi
    refine Ev.step (fun k => by rw [QL.impl_plains.l0]) ?_
    rw [pl_len, List.take_of_length_le (by omega)]
    refine ev_neg (by omega) ?_
    exact Ev.now _
  | succ d ih =>
    intro i hi
    have hlt : i < zs.length := by omega
    have w := wr i (by omega)
    have e : QL.rd_T89 (pl zs) (i : Int) = ⟨decide ((zs[i]'hlt) < 0), bs (Lb.mag (zs[i]'hlt).natAbs)⟩ := by
      unfold QL.rd_T89 pl
      rw [Int.toNat_natCast, List.getD_eq_getElem?_getD, List.getElem?_map, List.getElem?_eq_getElem hlt]
      rfl
    have nx := ih (i + 1) (by omega)
    refine Ev.step (fun k => by rw [QL.impl_plains.l0, w, e]) ?_
    rw [pl_len] at nx ⊢
    refine ev_pos (by omega) (ev_pos (by omega) (ev_pos (by omega) (ev_pos (by unfold pn; rw [List.length_map, List.length_take]; omega) ?_)))
    rw [List.take_succ_eq_append_getElem hlt] at nx
    unfold pn at nx ⊢
    rw [List.map_append] at nx
    exact nx
theorem plains_all (zs : List Int) (hl : zs.length ≤ 100000) : ∃ k, QL.impl_plains.f k (pl zs) = some (pn zs) := Ev.rounds (plains_ev zs hl _ 0 (Nat.zero_add _))
end Go.Proofs.YtjcebbcceohmkaaDoor.Giv

namespace Go.Proofs.YtjcebbcceohmkaaDoor.Giv
open Go.RowKit Go.Proofs.YtjcebbcceohmkaaDoorW.PrintWords Go.Proofs.YtjcebbcceohmkaaDoorW.PrintLast Go.Proofs.YtjcebbcceohmkaaDoor.Pk Go.Proofs.YtjcebbcceohmkaaDoor.Ord Go.Proofs.YtjcebbcceohmkaaDoor.QL
set_option linter.unusedVariables false
set_option linter.unusedSimpArgs false

def told_T1 : Bool × List (List Nat × List Nat) := (true, [([], []), ([0], [0]), ([], []), ([2], [2]), ([3], [3]), ([], []), ([5], [5]), ([], []), ([7], [7]), ([1, 4, 6, 8], [1, 4, 6, 8]), ([9, 4, 0, 1, 2, 3, 4, 5, 6, 7, 8, 9], [9])])
def told_B1 : List Nat := [0, 1, 0, 4, 12, 0, 32, 0, 128, 511, 1023]
theorem told_tab1 : rtab .any (opsOf Tryd.f31 1) = told_T1 := by kernel_rfl
theorem told_bits1 : waitsOk told_T1.2 told_B1 = true := by kernel_rfl
set_option maxHeartbeats 8000000 in
set_option maxRecDepth 100000 in
theorem told_calls (a0_0 : Bool) (A0_1 : Option Addr) (n c0_1 : Nat) (l0_1 : List Int) (a0_2 a0_3 : ByteArray) (w : World) (hn : n = l0_1.length) (hr0_1 : BRow w A0_1 l0_1) (hl : l0_1.length ≤ 100000) :
    Calls Tryd.prog 31 #[.agg #[.bool a0_0, .slice A0_1 n c0_1, .string a0_2, .string a0_3]] w fun e w' => ∃ v1_ : Value, e = .returned (.agg #[.bool a0_0, v1_, .string a0_2, .string a0_3]) ∧ Kd.R k89 89 w' w.heap.size (fun _ => True) v1_ (pl l0_1) ∧ Below w.heap.size w w' := by
  subst hn
  have huA := Tryd.underlying69
  have huB := Tryd.underlying37
  have HR0_1 := Aside0.mk hr0_1
  have ZP := Aside0.mk (fun (w' : World) (d : Below w.heap.size w w') => zzPlains_calls A0_1 c0_1 l0_1 w' (HR0_1.out.below d) hl)
  clear hr0_1 hl
  have HB := Aside0.mk (Below.refl w.heap.size w)
  go_enter Tryd.func31, Tryd.ntmps31
  try go_wp2_with (first | ((with_reducible refine gate_dst (N := 1) rfl ?_); refine box_event ?hg (N := 1) ?hd (cs := #[.bool a0_0, .slice A0_1 l0_1.length c0_1, .string a0_2, .string a0_3]) (t := 69) ?hr ?_; (case hd => rfl); (case hg => rfl); (case hr => first | (go_simp; done) | (go_simp; rfl)); intro gb106 hg w3 hbox hb; have n0_ := Aside0.mk (below_step (by repeat (first | (with_reducible first | exact HB.out | apply below_alloc | apply pw_below_drewN | apply below_drew1) | exact HB.out)) hb); have n1_ := Aside0.mk (hbox); have n2_ := Aside0.mk ((by rw [hg]; exact (below_size (by repeat (first | (with_reducible first | exact HB.out | apply below_alloc | apply pw_below_drewN | apply below_drew1) | exact HB.out))) : w.heap.size ≤ gb106)); have n3_ := Aside0.mk ((by rw [hg]; exact (below_size (by repeat (first | (with_reducible first | exact HB.out | apply below_alloc | apply pw_below_drewN | apply below_drew1) | exact HB.out))) : w.heap.size ≤ gb106)); clear HB; have HB := n0_; have BK106 := n1_; have GW106 := n2_; have GE106 := n3_; clear n0_ n1_ n2_ n3_; clear hb hbox hg) | ((with_reducible refine gate_dst (N := 2) rfl ?_); refine box_event ?hg (N := 2) ?hd (cs := #[.bool false, .slice none 0 0, .string (⟨#[]⟩ : ByteArray), .string (⟨#[]⟩ : ByteArray)]) (t := 37) ?hr ?_; (case hd => rfl); (case hg => rfl); (case hr => first | (go_simp; done) | (go_simp; rfl)); intro gb107 hg w4 hbox hb; have n0_ := Aside0.mk (blk_below (g := gb106) (o := .cells #[.bool a0_0, .slice A0_1 l0_1.length c0_1, .string a0_2, .string a0_3] 69 (0, 0)) (by (with_reducible repeat (first | refine blk_drewN ?_ _ | refine blk_drew ?_ | refine blk_alloc ?_ _)); exact BK106.out) hb); have n1_ := Aside0.mk (below_step (by repeat (first | (with_reducible first | exact HB.out | apply below_alloc | apply pw_below_drewN | apply below_drew1 | refine below_set ?_ GE106.out) | exact HB.out)) hb); have n2_ := Aside0.mk (hbox); have n3_ := Aside0.mk ((by rw [hg]; exact (below_size (by repeat (first | (with_reducible first | exact HB.out | apply below_alloc | apply pw_below_drewN | apply below_drew1 | refine below_set ?_ GE106.out) | exact HB.out))) : w.heap.size ≤ gb107)); have n4_ := Aside0.mk ((by rw [hg]; exact (below_size (by repeat (first | (with_reducible first | exact HB.out | apply below_alloc | apply pw_below_drewN | apply below_drew1 | refine below_set ?_ GE106.out) | exact HB.out))) : w.heap.size ≤ gb107)); have n5_ := Aside0.mk ((by rw [hg]; exact Nat.ne_of_lt (blk_lt (g := gb106) (o := .cells #[.bool a0_0, .slice A0_1 l0_1.length c0_1, .string a0_2, .string a0_3] 69 (0, 0)) (by (with_reducible repeat (first | refine blk_drewN ?_ _ | refine blk_drew ?_ | refine blk_alloc ?_ _)); exact BK106.out)) : gb106 ≠ gb107)); have n6_ := Aside0.mk ((by rw [hg]; exact Nat.ne_of_gt (blk_lt (g := gb106) (o := .cells #[.bool a0_0, .slice A0_1 l0_1.length c0_1, .string a0_2, .string a0_3] 69 (0, 0)) (by (with_reducible repeat (first | refine blk_drewN ?_ _ | refine blk_drew ?_ | refine blk_alloc ?_ _)); exact BK106.out)) : gb107 ≠ gb106)); clear BK106; clear HB; have BK106 := n0_; have HB := n1_; have BK107 := n2_; have GW107 := n3_; have GE107 := n4_; have NB106_107 := n5_; have NB107_106 := n6_; clear n0_ n1_ n2_ n3_ n4_ n5_ n6_; clear hb hbox hg))
  have n0_ := Aside0.mk (blk_drew BK106.out)
  have n1_ := Aside0.mk (blk_drew BK107.out)
  have n2_ := Aside0.mk (below_drew1 HB.out)
  clear BK106
  clear BK107
  clear HB
  have BK106 := n0_
  have BK107 := n1_
  have HB := n2_
  clear n0_ n1_ n2_
  refine start_ (n := 11) (S := fun w' => w'.cell? ⟨gb106, 0, none⟩ = some (.bool a0_0) ∧ w'.cell? ⟨gb106, 1, none⟩ = some (.slice A0_1 l0_1.length c0_1) ∧ w'.cell? ⟨gb106, 2, none⟩ = some (.string a0_2) ∧ w'.cell? ⟨gb106, 3, none⟩ = some (.string a0_3)) (ds := []) #[false, false, false, false, false, false, false, false, false, false, false] (by kernel_rfl) rfl rfl ⟨(blk_cell BK106.out 0).trans rfl, (blk_cell BK106.out 1).trans rfl, (blk_cell BK106.out 2).trans rfl, (blk_cell BK106.out 3).trans rfl⟩ (fun hHeld => ?_); refine with_tabW told_tab1 told_bits1 (fun HT_ HW_ => ?_)
  generalize w4.drew = w5 at BK106 BK107 HB hHeld ⊢
  refine pure_ (i := 0) (N := some 3) (v := ?_) (a' := ?_) #[true, false, false, false, false, false, false, false, false, false, false] rfl rfl (any_of HT_.out (by kernel_rfl)) (fun _ _ _ h => h) (Or.inl ⟨by rfl, ?_⟩) ?_ ?_
  rotate_left
  · intro w'
    go_simp
    with_reducible rfl
  rotate_left
  · simp only [Act.put, List.setIfInBounds_toArray, List.set_cons_zero, List.set_cons_succ, i64_w, i32_w]
    rfl
  refine pure_ (i := 2) (N := some 5) (v := ?_) (a' := ?_) #[true, false, true, false, false, false, false, false, false, false, false] rfl rfl (any_of HT_.out (by kernel_rfl)) (fun _ _ _ h => h) (Or.inl ⟨by rfl, ?_⟩) ?_ ?_
  rotate_left
  · intro w'
    go_simp
    with_reducible rfl
  rotate_left
  · simp only [Act.put, List.setIfInBounds_toArray, List.set_cons_zero, List.set_cons_succ, i64_w, i32_w]
    rfl
  refine pure_ (i := 5) (N := some 8) (v := ?_) (a' := ?_) #[true, false, true, false, false, true, false, false, false, false, false] rfl rfl (any_of HT_.out (by kernel_rfl)) (fun _ _ _ h => h) (Or.inl ⟨by rfl, ?_⟩) ?_ ?_
  rotate_left
  · intro w'
    go_simp
    with_reducible rfl
  rotate_left
  · simp only [Act.put, List.setIfInBounds_toArray, List.set_cons_zero, List.set_cons_succ, i64_w, i32_w]
    rfl
  refine pure_ (i := 7) (N := some 10) (v := ?_) (a' := ?_) #[true, false, true, false, false, true, false, true, false, false, false] rfl rfl (any_of HT_.out (by kernel_rfl)) (fun _ _ _ h => h) (Or.inl ⟨by rfl, ?_⟩) ?_ ?_
  rotate_left
  · intro w'
    go_simp
    with_reducible rfl
  rotate_left
  · simp only [Act.put, List.setIfInBounds_toArray, List.set_cons_zero, List.set_cons_succ, i64_w, i32_w]
    rfl
  refine take_ (i := 1) (N := some 4) (v := ?_) (a' := ?_) #[true, true, true, false, false, true, false, true, false, false, false] rfl rfl (take_ofW HT_.out HW_.out (by kernel_rfl)) (fun _ _ _ h => h) (Or.inl ⟨by rfl, ?_⟩) hHeld ?_ ?_
  rotate_left
  · rintro w' ⟨s0, s1, s2, s3⟩
    go_simp
    with_reducible rfl
  rotate_left
  · simp only [Act.put, List.setIfInBounds_toArray, List.set_cons_zero, List.set_cons_succ, i64_w, i32_w]
    rfl
  refine take_ (i := 3) (N := some 6) (v := ?_) (a' := ?_) #[true, true, true, true, false, true, false, true, false, false, false] rfl rfl (take_ofW HT_.out HW_.out (by kernel_rfl)) (fun _ _ _ h => h) (Or.inl ⟨by rfl, ?_⟩) hHeld ?_ ?_
  rotate_left
  · rintro w' ⟨s0, s1, s2, s3⟩
    go_simp
    with_reducible rfl
  rotate_left
  · simp only [Act.put, List.setIfInBounds_toArray, List.set_cons_zero, List.set_cons_succ, i64_w, i32_w]
    rfl
  refine take_ (i := 6) (N := some 9) (v := ?_) (a' := ?_) #[true, true, true, true, false, true, true, true, false, false, false] rfl rfl (take_ofW HT_.out HW_.out (by kernel_rfl)) (fun _ _ _ h => h) (Or.inl ⟨by rfl, ?_⟩) hHeld ?_ ?_
  rotate_left
  · rintro w' ⟨s0, s1, s2, s3⟩
    go_simp
    with_reducible rfl
  rotate_left
  · simp only [Act.put, List.setIfInBounds_toArray, List.set_cons_zero, List.set_cons_succ, i64_w, i32_w]
    rfl
  refine take_ (i := 8) (N := some 11) (v := ?_) (a' := ?_) #[true, true, true, true, false, true, true, true, true, false, false] rfl rfl (take_ofW HT_.out HW_.out (by kernel_rfl)) (fun _ _ _ h => h) (Or.inl ⟨by rfl, ?_⟩) hHeld ?_ ?_
  rotate_left
  · rintro w' ⟨s0, s1, s2, s3⟩
    go_simp
    with_reducible rfl
  rotate_left
  · simp only [Act.put, List.setIfInBounds_toArray, List.set_cons_zero, List.set_cons_succ, i64_w, i32_w]
    rfl
  refine one_ (i := 4) (N := some 7) #[true, true, true, true, true, true, true, true, true, false, false] rfl rfl (one_of HT_.out (by kernel_rfl)) (by decide) (fun K hK => ?_)
  refine goes_ Tryd.func40 (by kernel_rfl) rfl #[.slice A0_1 l0_1.length c0_1] (by rfl) rfl rfl (by (try simp only [List.map_toArray, List.map_cons, List.map_nil]); first | done | rfl | (simp only [List.length_drop, List.length_take]; rfl)) ?_
  with_reducible refine (ZP.out _ ?side1).mono ?_
  (case side1 => repeat (first | (with_reducible first | exact HB.out | apply below_alloc | apply pw_below_drewN | apply below_drew1) | exact HB.out))
  rintro e w6 ⟨v109, rfl, ho0, hb⟩
  refine ⟨_, rfl, ?_⟩
  have n0_ := Aside0.mk (Kd.R_lower ho0 (below_size (by repeat (first | (with_reducible first | exact HB.out | apply below_alloc | apply pw_below_drewN | apply below_drew1 | refine below_set ?_ GE106.out | refine below_set ?_ GE107.out) | exact HB.out))))
  have n1_ := Aside0.mk (blk_below (g := gb106) (o := .cells #[.bool a0_0, .slice A0_1 l0_1.length c0_1, .string a0_2, .string a0_3] 69 (0, 0)) (by (with_reducible repeat (first | refine blk_drewN ?_ _ | refine blk_drew ?_ | refine blk_alloc ?_ _)); exact BK106.out) hb)
  have n2_ := Aside0.mk (blk_below (g := gb107) (o := .cells #[.bool false, .slice none 0 0, .string (⟨#[]⟩ : ByteArray), .string (⟨#[]⟩ : ByteArray)] 37 (0, 0)) (by (with_reducible repeat (first | refine blk_drewN ?_ _ | refine blk_drew ?_ | refine blk_alloc ?_ _)); exact BK107.out) hb)
  have n3_ := Aside0.mk (below_step (by repeat (first | (with_reducible first | exact HB.out | apply below_alloc | apply pw_below_drewN | apply below_drew1 | refine below_set ?_ GE106.out | refine below_set ?_ GE107.out) | exact HB.out)) hb)
  clear BK106
  clear BK107
  clear HB
  have HO110 := n0_
  have BK106 := n1_
  have BK107 := n2_
  have HB := n3_
  clear n0_ n1_ n2_ n3_
  (try clear hb)
  (try clear hb2)
  (try clear hk)
  (try clear hi)
  (try clear ho0)
  obtain ⟨Ao7, co7, eo7⟩ := Kd.R_slice HO110.out
  (first | subst eo7 | (injection eo7 with f1_ f2_ f3_; have f4_ := f1_.symm; have f5_ := f3_.symm; clear f1_ f2_ f3_; subst f4_; subst f5_))
  refine hK.out _ _ ⟨(blk_cell BK106.out 0).trans rfl, (blk_cell BK106.out 1).trans rfl, (blk_cell BK106.out 2).trans rfl, (blk_cell BK106.out 3).trans rfl⟩ (fun hHeld => ?_)
  clear hK K
  refine norm_ (a' := ?_) ?_ ?_
  rotate_left
  · show Act.put _ (some 7) _ = _
    simp only [Act.put, List.setIfInBounds_toArray, List.set_cons_zero, List.set_cons_succ, i64_w, i32_w]
    rfl
  refine pure_ (i := 9) (N := some 12) (v := ?_) (a' := ?_) #[true, true, true, true, true, true, true, true, true, true, false] rfl rfl (any_of HT_.out (by kernel_rfl)) (fun _ _ _ h => h) (Or.inl ⟨by rfl, ?_⟩) ?_ ?_
  rotate_left
  · intro w'
    go_simp
    with_reducible rfl
  rotate_left
  · simp only [Act.put, List.setIfInBounds_toArray, List.set_cons_zero, List.set_cons_succ, i64_w, i32_w]
    rfl
  refine one_ (i := 10) (N := none) #[true, true, true, true, true, true, true, true, true, true, true] rfl rfl (one_of HT_.out (by kernel_rfl)) (by decide) (fun K hK => ?_)
  have hs8 : w6.cell? ⟨gb107, 0, none⟩ = some (.bool false) := (blk_cell BK107.out 0).trans rfl
  have hfs8 := blk_frozen BK107.out 0
  have hns8_0 := NB106_107.out
  have hms8_0 := NB107_106.out
  have hs9 : w6.cell? ⟨gb107, 1, none⟩ = some (.slice none 0 0) := (blk_cell BK107.out 1).trans rfl
  have hfs9 := blk_frozen BK107.out 1
  have hns9_0 := NB106_107.out
  have hms9_0 := NB107_106.out
  have hs10 : w6.cell? ⟨gb107, 2, none⟩ = some (.string (⟨#[]⟩ : ByteArray)) := (blk_cell BK107.out 2).trans rfl
  have hfs10 := blk_frozen BK107.out 2
  have hns10_0 := NB106_107.out
  have hms10_0 := NB107_106.out
  have hs11 : w6.cell? ⟨gb107, 3, none⟩ = some (.string (⟨#[]⟩ : ByteArray)) := (blk_cell BK107.out 3).trans rfl
  have hfs11 := blk_frozen BK107.out 3
  have hns11_0 := NB106_107.out
  have hms11_0 := NB107_106.out
  refine skip_ (w1 := ?_) (by rfl) rfl ?_ ?_
  rotate_left
  · go_simp
    rfl
  refine hK.out _ _ ⟨((cell_far (p := ⟨gb107, _, none⟩) NB106_107.out _).trans (((cell_far (p := ⟨gb107, _, none⟩) NB106_107.out _).trans (((cell_far (p := ⟨gb107, _, none⟩) NB106_107.out _).trans (((cell_far (p := ⟨gb107, _, none⟩) NB106_107.out _).trans (hHeld.1)))))))), ((cell_far (p := ⟨gb107, _, none⟩) NB106_107.out _).trans (((cell_far (p := ⟨gb107, _, none⟩) NB106_107.out _).trans (((cell_far (p := ⟨gb107, _, none⟩) NB106_107.out _).trans (((cell_far (p := ⟨gb107, _, none⟩) NB106_107.out _).trans (hHeld.2.1)))))))), ((cell_far (p := ⟨gb107, _, none⟩) NB106_107.out _).trans (((cell_far (p := ⟨gb107, _, none⟩) NB106_107.out _).trans (((cell_far (p := ⟨gb107, _, none⟩) NB106_107.out _).trans (((cell_far (p := ⟨gb107, _, none⟩) NB106_107.out _).trans (hHeld.2.2.1)))))))), ((cell_far (p := ⟨gb107, _, none⟩) NB106_107.out _).trans (((cell_far (p := ⟨gb107, _, none⟩) NB106_107.out _).trans (((cell_far (p := ⟨gb107, _, none⟩) NB106_107.out _).trans (((cell_far (p := ⟨gb107, _, none⟩) NB106_107.out _).trans (hHeld.2.2.2))))))))⟩ (fun hHeld => ?_)
  clear hK K
  refine done_ (done_of HT_.out (by kernel_rfl)) ?_
  try go_wp2
  refine bodyPost_ret (results_cell_row rfl _ _ gb107 37 #[.bool a0_0, .slice Ao7 (pl l0_1).length co7, .string a0_2, .string a0_3] (0, 0) _ rfl (by (with_reducible repeat (first | refine blk_drewN ?_ _ | refine blk_drew ?_ | refine blk_alloc ?_ _)); refine blk_put (cs := #[.bool a0_0, .slice Ao7 (pl l0_1).length co7, .string a0_2, .string (⟨#[]⟩ : ByteArray)]) ?_ 3 _ rfl; (with_reducible repeat (first | refine blk_drewN ?_ _ | refine blk_drew ?_ | refine blk_alloc ?_ _)); refine blk_put (cs := #[.bool a0_0, .slice Ao7 (pl l0_1).length co7, .string (⟨#[]⟩ : ByteArray), .string (⟨#[]⟩ : ByteArray)]) ?_ 2 _ rfl; (with_reducible repeat (first | refine blk_drewN ?_ _ | refine blk_drew ?_ | refine blk_alloc ?_ _)); refine blk_put (cs := #[.bool a0_0, .slice none 0 0, .string (⟨#[]⟩ : ByteArray), .string (⟨#[]⟩ : ByteArray)]) ?_ 1 _ rfl; (with_reducible repeat (first | refine blk_drewN ?_ _ | refine blk_drew ?_ | refine blk_alloc ?_ _)); refine blk_put (cs := #[.bool false, .slice none 0 0, .string (⟨#[]⟩ : ByteArray), .string (⟨#[]⟩ : ByteArray)]) ?_ 0 _ rfl; (with_reducible repeat (first | refine blk_drewN ?_ _ | refine blk_drew ?_ | refine blk_alloc ?_ _)); exact BK107.out) Tryd.underlying37 rfl (by kernel_rfl)) rfl ?_
  exact ⟨_, by first | rfl | (simp [errW_none, errW_some] <;> rfl) | (simp [*, errW_none, errW_some] <;> rfl) | (simp [bne_nil_]; done), by (with_reducible repeat (first | apply Kd.R_alloc | apply Kd.R_drewN | apply Kd.R_drew)); exact Kd.R_mono (Kd.R_far (p := ⟨gb107, 3, none⟩) (Kd.R_far (p := ⟨gb107, 2, none⟩) (Kd.R_far (p := ⟨gb107, 1, none⟩) (Kd.R_far (p := ⟨gb107, 0, none⟩) (Kd.R_types HO110.out BK107.out (by decide)) (fun _ hk => hk.2) (.bool a0_0)) (fun _ hk => hk.2) (.slice Ao7 (pl l0_1).length co7)) (fun _ hk => hk.2) (.string a0_2)) (fun _ hk => hk.2) (.string a0_3)) (fun _ hk => trivial), by repeat (first | (with_reducible first | exact HB.out | apply below_alloc | apply pw_below_drewN | apply below_drew1 | refine below_set ?_ GE106.out | refine below_set ?_ GE107.out) | exact HB.out)⟩
end Go.Proofs.YtjcebbcceohmkaaDoor.Giv

namespace Go.Proofs.YtjcebbcceohmkaaDoor.Giv
open Go.RowKit Go.Proofs.YtjcebbcceohmkaaDoorW.PrintWords Go.Proofs.YtjcebbcceohmkaaDoorW.PrintLast Go.Proofs.YtjcebbcceohmkaaDoor.Pk Go.Proofs.YtjcebbcceohmkaaDoor.Ord Go.Proofs.YtjcebbcceohmkaaDoor.QL
set_option linter.unusedVariables false
set_option linter.unusedSimpArgs false
theorem parseR_len (s : ByteArray) (hs : s.size ≤ 40000) : (Slk.parseR s).1.length ≤ 100000 := by
  have := Slk.slG_len (bs (Slk.body s.toList)) s.size 0 [] []
  unfold Slk.parseR
  have e : ([] : List Int).length = 0 := rfl
  omega
set_option maxRecDepth 100000 in
set_option maxHeartbeats 4000000 in
theorem zzLikeParse_calls (s : ByteArray) (w : World) (hs : s.size ≤ 40000) (hL : Laid w) :
    Calls Tryd.prog 17 #[.string s] w fun e w' => ∃ v : Value, e = .returned (.agg #[.bool (Slk.lead s.toList), v, .string (bs (Slk.parseR s).2), .string s]) ∧ Kd.R k89 89 w' w.heap.size (fun _ => True) v (pl (Slk.parseR s).1) ∧ Below w.heap.size w w' := by
  have al := below_alloc (Below.refl w.heap.size w) (Obj.cells #[Value.bool false, .slice none 0 0, .string ⟨#[]⟩, .string ⟨#[]⟩] 37)
  have AL := Aside0.mk al
  have K0 := Aside0.mk (blk_new w (Obj.cells #[Value.bool false, .slice none 0 0, .string ⟨#[]⟩, .string ⟨#[]⟩] 37))
  have pq := parseLike_calls s _ hs (hL.below al)
  have LN := Aside0.mk (parseR_len s hs)
  clear al hs hL
  generalize Slk.lead s.toList = lv at *
  generalize Slk.parseR s = full at *
  go_enter Tryd.func17, Tryd.ntmps17
  go_wp2_with (first | (go_at_call 32; (with_reducible refine pq.mono ?_); rintro e w1 ⟨v, rfl, ho, d1⟩; obtain ⟨A, c, rfl, hc, hr⟩ := ho.slice; have HR := Aside0.mk hr; have D1 := Aside0.mk (below_then AL.out AL.out.size d1); have K1 := Aside0.mk ((d1.block _ (blk_lt K0.out)).trans K0.out); clear ho d1 hc hr) | (go_at_call 31; (with_reducible refine (told_calls lv A full.1.length c full.1 (bs full.2) s _ rfl HR.out LN.out).mono ?_); rintro e w2 ⟨v2, rfl, r2, d2⟩; obtain ⟨A2, c2, e2⟩ := Kd.R_slice r2; subst e2; have R2 := Aside0.mk (Kd.R_lower r2 D1.out.size); have D2 := Aside0.mk (below_then D1.out D1.out.size d2); have k2 := (d2.block _ (blk_lt K1.out)).trans K1.out; have K2 := Aside0.mk k2; have p0 := blk_cell k2 0; have p1 := blk_cell k2 1; have p2 := blk_cell k2 2; have p3 := blk_cell k2 3; have f0 := Lib.frozen_of_heap k2 0; have f1 := Lib.frozen_of_heap k2 1; have f2 := Lib.frozen_of_heap k2 2; have f3 := Lib.frozen_of_heap k2 3; clear r2 d2 k2))
  have M3 := Aside0.mk (sx_put4 K2.out (.bool lv) (.slice A2 (pl full.1).length c2) (.string (bs full.2)) (.string s))
  refine bodyPost_ret (results_cell_row rfl _ _ w.heap.size 37 #[.bool lv, .slice A2 (pl full.1).length c2, .string (bs full.2), .string s] (0, 0) _ rfl M3.out Tryd.underlying37 rfl (by kernel_rfl)) rfl ?_
  exact ⟨_, rfl, Kd.R_mono (Kd.R_far (p := ⟨w.heap.size, 3, none⟩) (Kd.R_far (p := ⟨w.heap.size, 2, none⟩) (Kd.R_far (p := ⟨w.heap.size, 1, none⟩) (Kd.R_far (p := ⟨w.heap.size, 0, none⟩) (Kd.R_types R2.out K2.out (by decide)) (fun _ hk => hk.2) _) (fun _ hk => hk.2) _) (fun _ hk => hk.2) _) (fun _ hk => hk.2) _) (fun _ hk => trivial), below_set (below_set (below_set (below_set D2.out (Nat.le_refl _)) (Nat.le_refl _)) (Nat.le_refl _)) (Nat.le_refl _)⟩
set_option maxRecDepth 100000 in
set_option maxHeartbeats 4000000 in
theorem likeParse_calls (s : ByteArray) (w : World) (hs : s.size ≤ 40000) (hL : Laid w) :
    Calls Tryd.prog 7 #[.string s] w fun e w' => ∃ v : Value, e = .returned (.agg #[.bool (Slk.lead s.toList), v, .string (bs (Slk.parseR s).2), .string s]) ∧ Kd.R k42 42 w' w.heap.size (fun _ => True) v (pn (Slk.parseR s).1) ∧ Below w.heap.size w w' := by
  have al := below_alloc (Below.refl w.heap.size w) (Obj.cells #[Value.bool false, .slice none 0 0, .string ⟨#[]⟩, .string ⟨#[]⟩] 26)
  have AL := Aside0.mk al
  have K0 := Aside0.mk (blk_new w (Obj.cells #[Value.bool false, .slice none 0 0, .string ⟨#[]⟩, .string ⟨#[]⟩] 26))
  have pq := zzLikeParse_calls s _ hs (hL.below al)
  obtain ⟨kp, hp⟩ := plains_all (Slk.parseR s).1 (parseR_len s hs)
  have hq : impl_plainLike.f kp (Slk.lead s.toList) (pl (Slk.parseR s).1) (bs (Slk.parseR s).2) s = some (Slk.lead s.toList, pn (Slk.parseR s).1, bs (Slk.parseR s).2, s) := by
    unfold impl_plainLike.f
    rw [hp]
    rfl
  have LN := Aside0.mk (show (pn (Slk.parseR s).1).length = (pn (Slk.parseR s).1).length from rfl)
  clear al hs hL hp
  generalize Slk.lead s.toList = lv at *
  generalize Slk.parseR s = full at *
  go_enter Tryd.func7, Tryd.ntmps7
  go_wp2_with (first | (go_at_call 17; (with_reducible refine pq.mono ?_); rintro e w1 ⟨v, rfl, ho, d1⟩; obtain ⟨A, c, e1, hc, hr⟩ := Kd.R_reads ho; subst e1; have HR := Aside0.mk hr; have HC := Aside0.mk hc; have D1 := Aside0.mk (below_then AL.out AL.out.size d1); have K1 := Aside0.mk ((d1.block _ (blk_lt K0.out)).trans K0.out); clear ho d1 hc hr) | (go_at_call 16; (with_reducible refine (impl_plainLike.calls kp lv A c (pl full.1) (bs full.2) s lv (pn full.1) (bs full.2) s _ HR.out HC.out hq).mono ?_); rintro e w2 ⟨v2, rfl, r2, d2⟩; obtain ⟨A2, c2, e2⟩ := Kd.R_slice r2; subst e2; have R2 := Aside0.mk (Kd.R_lower r2 D1.out.size); have D2 := Aside0.mk (below_then D1.out D1.out.size d2); have k2 := (d2.block _ (blk_lt K1.out)).trans K1.out; have K2 := Aside0.mk k2; have p0 := blk_cell k2 0; have p1 := blk_cell k2 1; have p2 := blk_cell k2 2; have p3 := blk_cell k2 3; have f0 := Lib.frozen_of_heap k2 0; have f1 := Lib.frozen_of_heap k2 1; have f2 := Lib.frozen_of_heap k2 2; have f3 := Lib.frozen_of_heap k2 3; clear r2 d2 k2))
  have M3 := Aside0.mk (sx_put4 K2.out (.bool lv) (.slice A2 (pn full.1).length c2) (.string (bs full.2)) (.string s))
  refine bodyPost_ret (results_cell_row rfl _ _ w.heap.size 26 #[.bool lv, .slice A2 (pn full.1).length c2, .string (bs full.2), .string s] (0, 0) _ rfl M3.out Tryd.underlying26 rfl (by kernel_rfl)) rfl ?_
  exact ⟨_, rfl, Kd.R_mono (Kd.R_far (p := ⟨w.heap.size, 3, none⟩) (Kd.R_far (p := ⟨w.heap.size, 2, none⟩) (Kd.R_far (p := ⟨w.heap.size, 1, none⟩) (Kd.R_far (p := ⟨w.heap.size, 0, none⟩) (Kd.R_types R2.out K2.out (by decide)) (fun _ hk => hk.2) _) (fun _ hk => hk.2) _) (fun _ hk => hk.2) _) (fun _ hk => hk.2) _) (fun _ hk => trivial), below_set (below_set (below_set (below_set D2.out (Nat.le_refl _)) (Nat.le_refl _)) (Nat.le_refl _)) (Nat.le_refl _)⟩
end Go.Proofs.YtjcebbcceohmkaaDoor.Giv

namespace Go.Proofs.YtjcebbcceohmkaaDoor.Giv
open Go.RowKit Go.Proofs.YtjcebbcceohmkaaDoorW.PrintWords Go.Proofs.YtjcebbcceohmkaaDoorW.PrintLast Go.Proofs.YtjcebbcceohmkaaDoor.Pk Go.Proofs.YtjcebbcceohmkaaDoor.Ord Go.Proofs.YtjcebbcceohmkaaDoor.QL
set_option linter.unusedVariables false
set_option linter.unusedSimpArgs false
def impl_LikeParse.f (a0 : ByteArray) : Option (Bool × List S42 × ByteArray × ByteArray) := if a0.size ≤ 40000 then some (Slk.lead a0.toList, pn (Slk.parseR a0).1, bs (Slk.parseR a0).2, a0) else none
theorem impl_LikeParse.calls (a0 : ByteArray) (r1 : Bool) (r2 : List S42) (r3 r4 : ByteArray) (w : World) (h : impl_LikeParse.f a0 = some (r1, r2, r3, r4)) (hL : LaidU w) :
    Calls Tryd.prog 7 #[.string a0] w fun e w' => ∃ v : Value, e = .returned (.agg #[.bool r1, v, .string r3, .string r4]) ∧ Kd.R k42 42 w' w.heap.size (fun _ => True) v r2 ∧ Below w.heap.size w w' := by
  unfold impl_LikeParse.f at h
  split at h
  · next hc =>
    obtain ⟨e1, h1⟩ := Prod.mk.inj (Option.some.inj h)
    obtain ⟨e2, h2⟩ := Prod.mk.inj h1
    obtain ⟨e3, e4⟩ := Prod.mk.inj h2
    subst e1
    subst e2
    subst e3
    subst e4
    exact likeParse_calls a0 w hc hL.toLaid
  · exact absurd h (by simp)
end Go.Proofs.YtjcebbcceohmkaaDoor.Giv
