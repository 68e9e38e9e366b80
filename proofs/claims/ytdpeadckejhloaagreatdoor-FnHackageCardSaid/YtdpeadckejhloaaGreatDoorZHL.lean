/- Contract by hand: plain numbers as pointers to numbers (zzBigs).
   Plain numbers of the statements as the program's (impl.bigs).
   Contract by hand: versions like those of SemVer made of plain parts ((ZZLike).like). Turned from the kit's print of impl.like by wip/tool/genlk.py. -/
import Derived.Test.YtdpeadckejhloaaGreatDoorZJ
import Derived.Test.YtdpeadckejhloaaGreatDoorQHx1
import Derived.Test.YtdpeadckejhloaaGreatDoorQHx
import Derived.Lib.SmallJoins
namespace Go.Proofs.YtdpeadckejhloaaGreatDoor.Giv
open Go.RowKit Go.Proofs.YtdpeadckejhloaaGreatDoorW.PrintWords Go.Proofs.YtdpeadckejhloaaGreatDoorW.PrintLast Go.Proofs.YtdpeadckejhloaaGreatDoor.Pk Go.Proofs.YtdpeadckejhloaaGreatDoor.Ord Go.Proofs.YtdpeadckejhloaaGreatDoor.QH
set_option linter.unusedVariables false
set_option linter.unusedSimpArgs false

theorem ptrInfoZ : (Tryz.prog.info? 81).map (fun i => (i.zero, i.size, i.bytes)) = some (some (.pointer none), 1, 8) := by kernel_rfl
/-- What plain numbers tell. -/
def zsOf (l : List S77) : List Int := l.map fun x => zOf x.f0 x.f1
theorem zsOf_len (l : List S77) : (zsOf l).length = l.length := by simp [zsOf]
set_option maxHeartbeats 4000000 in
set_option maxRecDepth 100000 in
theorem zzBigs_calls (A : Option Addr) (c : Nat) (l : List S77) (w : World) (hr : Kd.C k77 w A l.length l) (hl : l.length ≤ 100000) (hs : ∀ x ∈ l, x.f1.size ≤ 100000) :
    Calls Tryz.prog 41 #[.slice A l.length c] w fun e w' => ∃ v, e = .returned v ∧ BOwn w' w.heap.size v (zsOf l) ∧ Below w.heap.size w w' := by
  have HR := Aside0.mk hr
  clear hr
  go_enter Tryz.func41, Tryz.ntmps41
  go_wp2_with fail
  go_loopw [3, 8] (fun v3 v8 wr => ∃ (k : Nat), v8 = .int .i64 k ∧ k ≤ l.length ∧ Aside0 (BOwn wr w.heap.size v3 (zsOf (l.take k))) ∧ Aside0 (Below w.heap.size w wr)) (fun v3 v8 wr => l.length - (match v8 with | .int _ n => n.toNat | _ => 0))
  case atStart => exact ⟨0, rfl, Nat.zero_le _, Aside0.mk (BOwn.nil w w.heap.size), Aside0.mk (Below.refl _ _)⟩
  case round =>
    obtain ⟨k, rfl, hk, HB, BL⟩ := hrel
    by_cases hlt : k < l.length
    · obtain ⟨ad, rfl, c0, c1⟩ := at_T77 HR.out (k : Int) (by omega) (by omega)
      replace c0 := (BL.out.cell (World.block_lt_of_cell? w _ c0)).trans c0
      replace c1 := (BL.out.cell (World.block_lt_of_cell? w _ c1)).trans c1
      have er : rd_T77 l (k : Int) = l[k]'hlt := by
        unfold rd_T77
        rw [Int.toNat_natCast, List.getD_eq_getElem?_getD, List.getElem?_eq_getElem hlt]
        rfl
      rw [er, Int.toNat_natCast] at c0 c1
      have hsx := hs _ (List.getElem_mem hlt)
      have nx : zsOf (l.take k) ++ [zOf (l[k]'hlt).f0 (l[k]'hlt).f1] = zsOf (l.take (k + 1)) := by
        unfold zsOf
        rw [List.take_succ_eq_append_getElem hlt, List.map_append]
        rfl
      have NX := Aside0.mk nx
      have LEN := Aside0.mk (show (zsOf (l.take k)).length = k by rw [zsOf_len, List.length_take]; omega)
      clear nx er
      generalize l[k]'hlt = x at *
      obtain ⟨ng, mg⟩ := x
      have k4 := blk_new wr (Obj.cells #[Value.bool false, .string ⟨#[]⟩] 77)
      have p0 := blk_cell k4 0
      have p1 := blk_cell k4 1
      have f0 := Lib.frozen_of_heap k4 0
      have f1 := Lib.frozen_of_heap k4 1
      have lt4 := blk_lt k4
      have k5 := blk_new wr (Obj.cells #[Value.bool ng, .string mg] 77)
      have q0 := blk_cell k5 0
      have q1 := blk_cell k5 1
      have A5 := Aside0.mk (below_alloc (Below.refl wr.heap.size wr) (Obj.cells #[Value.bool ng, .string mg] 77))
      have zb := fun (w' : World) => zzBig_calls ng mg w' hsx
      have f4 : (k : Int) < (l.length : Int) := Int.ofNat_lt.2 hlt
      have WK := Aside0.mk (Pk.wr k (by omega))
      have KL := Aside0.mk hlt
      have HL := Aside0.mk hl
      clear k4 k5 hs hlt hl hk
      go_wp2_with (first | (go_at_call 51; (with_reducible refine (zb _).mono ?_); rintro e w3 ⟨p, rfl, hp, d3⟩; have B3 := below_then A5.out A5.out.size d3; have BL3 := Aside0.mk (below_then BL.out BL.out.size B3); have BS3 := Aside0.mk (Nat.le_trans BL.out.size B3.size); obtain ⟨qs, hq1, hq2⟩ := HB.out.below B3; have HQ1 := Aside0.mk hq1; have HQ2 := Aside0.mk hq2; have Q2 := Aside0.mk hp; have QL := Aside0.mk (show (qs.length + 1) * 8 ≤ 140737488355328 by rw [hq2.1, LEN.out]; have := KL.out; have := HL.out; omega); clear B3 hq1 hq2 hp d3) | ((with_reducible refine gate_builtin (b := .append) (xs := #[.tmp 12, .tmp 15]) rfl ?_); at_builtin; refine Kd.R_append ptrK (w0 := w) w.heap.size rfl (.tmp 12) (.tmp 15) 39 81 (.pointer none) 8 rfl Tryz.underlying39 ptrInfoZ rfl (by decide) (by omega) u3 qs p [.pointer (some ⟨p, 0, none⟩)] (fun _ => True) (fun _ => False) rfl rfl ?aP (fun _ hk => hk.elim) ?aF ?aO ?aB ?aS ?aL ?_; (case aP => exact rfl); (case aF => exact (fun _ _ => trivial)); (case aO => exact HQ1.out); (case aB => exact BL3.out); (case aS => exact BS3.out); (case aL => exact QL.out); intro v5 w5 ho hb hg hat; have HO := Aside0.mk (BOwn.more HQ1.out HQ2.out Q2.out ho hg); have BL5 := Aside0.mk hb; clear ho hb hg hat))
      refine ⟨⟨k + 1, ?_, KL.out, Aside0.mk (NX.out ▸ HO.out), BL5⟩, ?_⟩
      · rw [WK.out]
      · have := KL.out
        simp only [WK.out, Int.toNat_natCast]
        omega
    · obtain rfl : k = l.length := by omega
      have f4 : ¬ (l.length : Int) < (l.length : Int) := by omega
      have e := HB.out
      rw [List.take_of_length_le (Nat.le_refl _)] at e
      have HE := Aside0.mk e
      clear e
      go_wp2_with fail
      go_ret
      exact ⟨_, rfl, HE.out, BL.out⟩
end Go.Proofs.YtdpeadckejhloaaGreatDoor.Giv

namespace Go.Proofs.YtdpeadckejhloaaGreatDoor.Giv
open Go.RowKit Go.Proofs.YtdpeadckejhloaaGreatDoorW.PrintWords Go.Proofs.YtdpeadckejhloaaGreatDoorW.PrintLast Go.Proofs.YtdpeadckejhloaaGreatDoor.Pk Go.Proofs.YtdpeadckejhloaaGreatDoor.Ord Go.Proofs.YtdpeadckejhloaaGreatDoor.QH
set_option linter.unusedVariables false
set_option linter.unusedSimpArgs false

/-- Plain numbers of the statements as the program's. -/
def zi (l : List S55) : List S77 := l.map fun x => ⟨x.f0, x.f1⟩
theorem zi_len (l : List S55) : (zi l).length = l.length := by simp [zi]
/-- What plain numbers of the statements tell. -/
def zn (l : List S55) : List Int := l.map fun x => zOf x.f0 x.f1
theorem zsOf_zi (l : List S55) : zsOf (zi l) = zn l := by
  unfold zsOf zi zn
  rw [List.map_map]
  rfl
theorem zn_len (l : List S55) : (zn l).length = l.length := by simp [zn]
theorem bigs_loop (l : List S55) (hl : l.length ≤ 100000) (d : Nat) : ∀ i : Nat, i + d = l.length → Ev (fun k => impl_bigs.l0 k (zi (l.take i)) l (l.length : Int) (i : Int)) (zi l) := by
  induction d with
  | zero =>
    intro i hi
    refine Ev.step (fun k => by rw [impl_bigs.l0]) ?_
    rw [List.take_of_length_le (by omega)]
    refine ev_neg (by omega) ?_
    exact Ev.now _
  | succ d ih =>
    intro i hi
    have hlt : i < l.length := by omega
    have w := wr i (by omega)
    have e : rd_T55 l (i : Int) = l[i]'hlt := by
      unfold rd_T55
      rw [Int.toNat_natCast, List.getD_eq_getElem?_getD, List.getElem?_eq_getElem hlt]
      rfl
    have s : zi (l.take i) ++ [(⟨(l[i]'hlt).f0, (l[i]'hlt).f1⟩ : S77)] = zi (l.take (i + 1)) := by
      unfold zi
      rw [List.take_succ_eq_append_getElem hlt, List.map_append]
      rfl
    have nx := ih (i + 1) (by omega)
    refine Ev.step (fun k => by rw [impl_bigs.l0, w, e, s]) ?_
    refine ev_pos (by omega) (ev_pos (by omega) (ev_pos (by omega) (ev_pos ?_ nx)))
    rw [zi_len, List.length_take]
    omega
theorem bigs_ev (l : List S55) (hl : l.length ≤ 100000) : Ev (fun k => impl_bigs.f k l) (zi l) := by
  unfold impl_bigs.f
  have := bigs_loop l hl _ 0 (Nat.zero_add _)
  exact this
/-- Lists that are small enough to be told. -/
def small (l : List S55) : Bool := decide (l.length ≤ 100000) && l.all (fun x => decide (x.f1.size ≤ 100000))
theorem small_len {l : List S55} (h : small l = true) : l.length ≤ 100000 := by
  unfold small at h
  rw [Bool.and_eq_true] at h
  exact of_decide_eq_true h.1
theorem small_all {l : List S55} (h : small l = true) : ∀ x ∈ zi l, x.f1.size ≤ 100000 := by
  unfold small at h
  rw [Bool.and_eq_true, List.all_eq_true] at h
  intro x hx
  unfold zi at hx
  obtain ⟨y, hy, rfl⟩ := List.mem_map.1 hx
  exact of_decide_eq_true (h.2 y hy)
end Go.Proofs.YtdpeadckejhloaaGreatDoor.Giv

namespace Go.Proofs.YtdpeadckejhloaaGreatDoor.Giv
open Go.RowKit Go.Proofs.YtdpeadckejhloaaGreatDoorW.PrintWords Go.Proofs.YtdpeadckejhloaaGreatDoorW.PrintLast Go.Proofs.YtdpeadckejhloaaGreatDoor.Pk Go.Proofs.YtdpeadckejhloaaGreatDoor.Ord Go.Proofs.YtdpeadckejhloaaGreatDoor.QH
set_option linter.unusedVariables false
set_option linter.unusedSimpArgs false

theorem BOwn.put4 {w : World} {base : Nat} {v : Value} {zs : List Int} (h : BOwn w base v zs) {g t : Nat} {cells : Array Value} (hb : w.heap[g]? = some (Obj.cells cells t (0, 0))) (ht : t ≠ 100 ∧ t ≠ 117) (hp : t ≠ 81) (v0 v1 v2 v3 : Value) : BOwn ((((w.setCell ⟨g, 0, none⟩ v0).setCell ⟨g, 1, none⟩ v1).setCell ⟨g, 2, none⟩ v2).setCell ⟨g, 3, none⟩ v3) base v zs := by
  have b1 := Joins.block_setCell (i := 0) hb v0
  have b2 := Joins.block_setCell (i := 1) b1 v1
  have b3 := Joins.block_setCell (i := 2) b2 v2
  exact (((h.put hb ht hp 0 v0).put b1 ht hp 1 v1).put b2 ht hp 2 v2).put b3 ht hp 3 v3
theorem implLike_ev (lv : Bool) (l : List S55) (b o : ByteArray) (hl : l.length ≤ 100000) : Ev (fun k => impl_like.f k lv l b o) (lv, zi l, b, o) := by
  unfold impl_like.f
  exact (bigs_ev l hl).bind (Ev.now _)
theorem implLike_calls (lv : Bool) (A : Option Addr) (c n : Nat) (l : List S55) (b o : ByteArray) (w : World) (hn : n = l.length) (hr : Kd.C k55 w A l.length l) (hc : l.length ≤ c) (hl : l.length ≤ 100000) :
    Calls Tryz.prog 19 #[.agg #[.bool lv, .slice A n c, .string b, .string o]] w fun e w' => ∃ (B : Option Addr) (d : Nat), e = .returned (.agg #[.bool lv, .slice B n d, .string b, .string o]) ∧ Kd.C k77 w' B (zi l).length (zi l) ∧ Below w.heap.size w w' := by
  subst hn
  obtain ⟨k, hk⟩ := (implLike_ev lv l b o hl).rounds
  refine (impl_like.calls k lv A c l b o lv (zi l) b o w hr hc hk).mono ?_
  rintro e w' ⟨v, rfl, ho, d⟩
  obtain ⟨B, d', rfl, _, h2⟩ := Kd.R_reads ho
  exact ⟨B, d', by rw [zi_len], h2, d⟩
def zzLike_T1 : Bool × List (List Nat × List Nat) := (true, [([], []), ([0], [0]), ([], []), ([2], [2]), ([3], [3]), ([], []), ([5], [5]), ([], []), ([7], [7]), ([1, 4, 6, 8], [1, 4, 6, 8]), ([9, 4, 0, 1, 2, 3, 4, 5, 6, 7, 8, 9], [9])])
def zzLike_B1 : List Nat := [0, 1, 0, 4, 12, 0, 32, 0, 128, 511, 1023]
theorem zzLike_tab1 : rtab .any (opsOf Tryz.f31 1) = zzLike_T1 := by kernel_rfl
theorem zzLike_bits1 : waitsOk zzLike_T1.2 zzLike_B1 = true := by kernel_rfl
set_option maxHeartbeats 8000000 in
set_option maxRecDepth 100000 in
theorem zzLike_calls (a0_0 : Bool) (A0_1 : Option Addr) (n c0_1 : Nat) (l0_1 : List S77) (a0_2 a0_3 : ByteArray) (w : World) (hn : n = l0_1.length) (hr0_1 : Kd.C k77 w A0_1 l0_1.length l0_1) (hl : l0_1.length ≤ 100000) (hs : ∀ x ∈ l0_1, x.f1.size ≤ 100000) :
    Calls Tryz.prog 31 #[.agg #[.bool a0_0, .slice A0_1 n c0_1, .string a0_2, .string a0_3]] w fun e w' => ∃ (B : Option Addr) (d : Nat), e = .returned (.agg #[.bool a0_0, .slice B (zsOf l0_1).length d, .string a0_2, .string a0_3]) ∧ BOwn w' w.heap.size (.slice B (zsOf l0_1).length d) (zsOf l0_1) ∧ Below w.heap.size w w' := by
  subst hn
  have huA := Tryz.underlying48
  have huB := Tryz.underlying42
  have HR0_1 := Aside0.mk hr0_1
  have ZB := Aside0.mk (fun (w' : World) (d : Below w.heap.size w w') => zzBigs_calls A0_1 c0_1 l0_1 w' (Kd.C_below HR0_1.out d) hl hs)
  clear hr0_1 hl hs
  have HB := Aside0.mk (Below.refl w.heap.size w)
  go_enter Tryz.func31, Tryz.ntmps31
  try go_wp2_with (first | ((with_reducible refine gate_dst (N := 1) rfl ?_); refine box_event ?hg (N := 1) ?hd (cs := #[.bool a0_0, .slice A0_1 l0_1.length c0_1, .string a0_2, .string a0_3]) (t := 48) ?hr ?_; (case hd => rfl); (case hg => rfl); (case hr => first | (go_simp; done) | (go_simp; rfl)); intro gb188 hg w3 hbox hb; have n0_ := Aside0.mk (below_step (by repeat (first | (with_reducible first | exact HB.out | apply below_alloc | apply pw_below_drewN | apply below_drew1) | exact HB.out)) hb); have n1_ := Aside0.mk (hbox); have n2_ := Aside0.mk ((by rw [hg]; exact (below_size (by repeat (first | (with_reducible first | exact HB.out | apply below_alloc | apply pw_below_drewN | apply below_drew1) | exact HB.out))) : w.heap.size ≤ gb188)); have n3_ := Aside0.mk ((by rw [hg]; exact (below_size (by repeat (first | (with_reducible first | exact HB.out | apply below_alloc | apply pw_below_drewN | apply below_drew1) | exact HB.out))) : w.heap.size ≤ gb188)); clear HB; have HB := n0_; have BK188 := n1_; have GW188 := n2_; have GE188 := n3_; clear n0_ n1_ n2_ n3_; clear hb hbox hg) | ((with_reducible refine gate_dst (N := 2) rfl ?_); refine box_event ?hg (N := 2) ?hd (cs := #[.bool false, .slice none 0 0, .string (⟨#[]⟩ : ByteArray), .string (⟨#[]⟩ : ByteArray)]) (t := 42) ?hr ?_; (case hd => rfl); (case hg => rfl); (case hr => first | (go_simp; done) | (go_simp; rfl)); intro gb189 hg w4 hbox hb; have n0_ := Aside0.mk (blk_below (g := gb188) (o := .cells #[.bool a0_0, .slice A0_1 l0_1.length c0_1, .string a0_2, .string a0_3] 48 (0, 0)) (by (with_reducible repeat (first | refine blk_drewN ?_ _ | refine blk_drew ?_ | refine blk_alloc ?_ _)); exact BK188.out) hb); have n1_ := Aside0.mk (below_step (by repeat (first | (with_reducible first | exact HB.out | apply below_alloc | apply pw_below_drewN | apply below_drew1 | refine below_set ?_ GE188.out) | exact HB.out)) hb); have n2_ := Aside0.mk (hbox); have n3_ := Aside0.mk ((by rw [hg]; exact (below_size (by repeat (first | (with_reducible first | exact HB.out | apply below_alloc | apply pw_below_drewN | apply below_drew1 | refine below_set ?_ GE188.out) | exact HB.out))) : w.heap.size ≤ gb189)); have n4_ := Aside0.mk ((by rw [hg]; exact (below_size (by repeat (first | (with_reducible first | exact HB.out | apply below_alloc | apply pw_below_drewN | apply below_drew1 | refine below_set ?_ GE188.out) | exact HB.out))) : w.heap.size ≤ gb189)); have n5_ := Aside0.mk ((by rw [hg]; exact Nat.ne_of_lt (blk_lt (g := gb188) (o := .cells #[.bool a0_0, .slice A0_1 l0_1.length c0_1, .string a0_2, .string a0_3] 48 (0, 0)) (by (with_reducible repeat (first | refine blk_drewN ?_ _ | refine blk_drew ?_ | refine blk_alloc ?_ _)); exact BK188.out)) : gb188 ≠ gb189)); have n6_ := Aside0.mk ((by rw [hg]; exact Nat.ne_of_gt (blk_lt (g := gb188) (o := .cells #[.bool a0_0, .slice A0_1 l0_1.length c0_1, .string a0_2, .string a0_3] 48 (0, 0)) (by (with_reducible repeat (first | refine blk_drewN ?_ _ | refine blk_drew ?_ | refine blk_alloc ?_ _)); exact BK188.out)) : gb189 ≠ gb188)); clear BK188; clear HB; have BK188 := n0_; have HB := n1_; have BK189 := n2_; have GW189 := n3_; have GE189 := n4_; have NB188_189 := n5_; have NB189_188 := n6_; clear n0_ n1_ n2_ n3_ n4_ n5_ n6_; clear hb hbox hg))
  have n0_ := Aside0.mk (blk_drew BK188.out)
  have n1_ := Aside0.mk (blk_drew BK189.out)
  have n2_ := Aside0.mk (below_drew1 HB.out)
  clear BK188
  clear BK189
  clear HB
  have BK188 := n0_
  have BK189 := n1_
  have HB := n2_
  clear n0_ n1_ n2_
  refine start_ (n := 11) (S := fun w' => w'.cell? ⟨gb188, 0, none⟩ = some (.bool a0_0) ∧ w'.cell? ⟨gb188, 1, none⟩ = some (.slice A0_1 l0_1.length c0_1) ∧ w'.cell? ⟨gb188, 2, none⟩ = some (.string a0_2) ∧ w'.cell? ⟨gb188, 3, none⟩ = some (.string a0_3)) (ds := []) #[false, false, false, false, false, false, false, false, false, false, false] (by kernel_rfl) rfl rfl ⟨(blk_cell BK188.out 0).trans rfl, (blk_cell BK188.out 1).trans rfl, (blk_cell BK188.out 2).trans rfl, (blk_cell BK188.out 3).trans rfl⟩ (fun hHeld => ?_); refine with_tabW zzLike_tab1 zzLike_bits1 (fun HT_ HW_ => ?_)
  generalize w4.drew = w5 at BK188 BK189 HB hHeld ⊢
  refine pure_ (i := 0) (N := some 3) (v := ?_) (a' := ?_) #[true, false, false, false, false, false, false, false, false, false, false] rfl rfl (any_of HT_.out (by kernel_rfl)) (fun _ _ _ h => h) (Or.inl ⟨by rfl, ?_⟩) ?_ ?_
  rotate_left
  · intro w'
    go_simp
    with_reducible rfl
  rotate_left
  · simp only [Act.put, List.setIfInBounds_toArray, List.set_cons_zero, List.set_cons_succ, i64_w, i32_w]
    rfl
  refine pure_ (i := 2) (N := some 5) (v := ?_) (a' := ?_) #[true, false, true, false, false, false, false, false, false, false, false] rfl rfl (any_of HT_.out (by kernel_rfl)) (fun _ _ _ h => h) (Or.inl ⟨by rfl, ?_⟩) ?_ ?_
  rotate_left
  · intro w'
    go_simp
    with_reducible rfl
  rotate_left
  · simp only [Act.put, List.setIfInBounds_toArray, List.set_cons_zero, List.set_cons_succ, i64_w, i32_w]
    rfl
  refine pure_ (i := 5) (N := some 8) (v := ?_) (a' := ?_) #[true, false, true, false, false, true, false, false, false, false, false] rfl rfl (any_of HT_.out (by kernel_rfl)) (fun _ _ _ h => h) (Or.inl ⟨by rfl, ?_⟩) ?_ ?_
  rotate_left
  · intro w'
    go_simp
    with_reducible rfl
  rotate_left
  · simp only [Act.put, List.setIfInBounds_toArray, List.set_cons_zero, List.set_cons_succ, i64_w, i32_w]
    rfl
  refine pure_ (i := 7) (N := some 10) (v := ?_) (a' := ?_) #[true, false, true, false, false, true, false, true, false, false, false] rfl rfl (any_of HT_.out (by kernel_rfl)) (fun _ _ _ h => h) (Or.inl ⟨by rfl, ?_⟩) ?_ ?_
  rotate_left
  · intro w'
    go_simp
    with_reducible rfl
  rotate_left
  · simp only [Act.put, List.setIfInBounds_toArray, List.set_cons_zero, List.set_cons_succ, i64_w, i32_w]
    rfl
  refine take_ (i := 1) (N := some 4) (v := ?_) (a' := ?_) #[true, true, true, false, false, true, false, true, false, false, false] rfl rfl (take_ofW HT_.out HW_.out (by kernel_rfl)) (fun _ _ _ h => h) (Or.inl ⟨by rfl, ?_⟩) hHeld ?_ ?_
  rotate_left
  · rintro w' ⟨s0, s1, s2, s3⟩
    go_simp
    with_reducible rfl
  rotate_left
  · simp only [Act.put, List.setIfInBounds_toArray, List.set_cons_zero, List.set_cons_succ, i64_w, i32_w]
    rfl
  refine take_ (i := 3) (N := some 6) (v := ?_) (a' := ?_) #[true, true, true, true, false, true, false, true, false, false, false] rfl rfl (take_ofW HT_.out HW_.out (by kernel_rfl)) (fun _ _ _ h => h) (Or.inl ⟨by rfl, ?_⟩) hHeld ?_ ?_
  rotate_left
  · rintro w' ⟨s0, s1, s2, s3⟩
    go_simp
    with_reducible rfl
  rotate_left
  · simp only [Act.put, List.setIfInBounds_toArray, List.set_cons_zero, List.set_cons_succ, i64_w, i32_w]
    rfl
  refine take_ (i := 6) (N := some 9) (v := ?_) (a' := ?_) #[true, true, true, true, false, true, true, true, false, false, false] rfl rfl (take_ofW HT_.out HW_.out (by kernel_rfl)) (fun _ _ _ h => h) (Or.inl ⟨by rfl, ?_⟩) hHeld ?_ ?_
  rotate_left
  · rintro w' ⟨s0, s1, s2, s3⟩
    go_simp
    with_reducible rfl
  rotate_left
  · simp only [Act.put, List.setIfInBounds_toArray, List.set_cons_zero, List.set_cons_succ, i64_w, i32_w]
    rfl
  refine take_ (i := 8) (N := some 11) (v := ?_) (a' := ?_) #[true, true, true, true, false, true, true, true, true, false, false] rfl rfl (take_ofW HT_.out HW_.out (by kernel_rfl)) (fun _ _ _ h => h) (Or.inl ⟨by rfl, ?_⟩) hHeld ?_ ?_
  rotate_left
  · rintro w' ⟨s0, s1, s2, s3⟩
    go_simp
    with_reducible rfl
  rotate_left
  · simp only [Act.put, List.setIfInBounds_toArray, List.set_cons_zero, List.set_cons_succ, i64_w, i32_w]
    rfl
  refine one_ (i := 4) (N := some 7) #[true, true, true, true, true, true, true, true, true, false, false] rfl rfl (one_of HT_.out (by kernel_rfl)) (by decide) (fun K hK => ?_)
  refine goes_ Tryz.func41 (by kernel_rfl) rfl #[.slice A0_1 l0_1.length c0_1] (by rfl) rfl rfl (by (try simp only [List.map_toArray, List.map_cons, List.map_nil]); first | done | rfl | (simp only [List.length_drop, List.length_take]; rfl)) ?_
  with_reducible refine (ZB.out _ ?side1).mono ?_
  (case side1 => repeat (first | (with_reducible first | exact HB.out | apply below_alloc | apply pw_below_drewN | apply below_drew1) | exact HB.out))
  rintro e w6 ⟨v191, rfl, ho0, hb⟩
  refine ⟨_, rfl, ?_⟩
  have n0_ := Aside0.mk (BOwn.lower ho0 (below_size (by repeat (first | (with_reducible first | exact HB.out | apply below_alloc | apply pw_below_drewN | apply below_drew1 | refine below_set ?_ GE188.out | refine below_set ?_ GE189.out) | exact HB.out))))
  have n1_ := Aside0.mk (blk_below (g := gb188) (o := .cells #[.bool a0_0, .slice A0_1 l0_1.length c0_1, .string a0_2, .string a0_3] 48 (0, 0)) (by (with_reducible repeat (first | refine blk_drewN ?_ _ | refine blk_drew ?_ | refine blk_alloc ?_ _)); exact BK188.out) hb)
  have n2_ := Aside0.mk (blk_below (g := gb189) (o := .cells #[.bool false, .slice none 0 0, .string (⟨#[]⟩ : ByteArray), .string (⟨#[]⟩ : ByteArray)] 42 (0, 0)) (by (with_reducible repeat (first | refine blk_drewN ?_ _ | refine blk_drew ?_ | refine blk_alloc ?_ _)); exact BK189.out) hb)
  have n3_ := Aside0.mk (below_step (by repeat (first | (with_reducible first | exact HB.out | apply below_alloc | apply pw_below_drewN | apply below_drew1 | refine below_set ?_ GE188.out | refine below_set ?_ GE189.out) | exact HB.out)) hb)
  clear BK188
  clear BK189
  clear HB
  have HO192 := n0_
  have BK188 := n1_
  have BK189 := n2_
  have HB := n3_
  clear n0_ n1_ n2_ n3_
  (try clear hb)
  (try clear hb2)
  (try clear hk)
  (try clear hi)
  (try clear ho0)
  obtain ⟨Ao7, co7, eo7, _, _⟩ := HO192.out.slice
  subst eo7
  refine hK.out _ _ ⟨(blk_cell BK188.out 0).trans rfl, (blk_cell BK188.out 1).trans rfl, (blk_cell BK188.out 2).trans rfl, (blk_cell BK188.out 3).trans rfl⟩ (fun hHeld => ?_)
  clear hK K
  refine norm_ (a' := ?_) ?_ ?_
  rotate_left
  · show Act.put _ (some 7) _ = _
    simp only [Act.put, List.setIfInBounds_toArray, List.set_cons_zero, List.set_cons_succ, i64_w, i32_w]
    rfl
  refine pure_ (i := 9) (N := some 12) (v := ?_) (a' := ?_) #[true, true, true, true, true, true, true, true, true, true, false] rfl rfl (any_of HT_.out (by kernel_rfl)) (fun _ _ _ h => h) (Or.inl ⟨by rfl, ?_⟩) ?_ ?_
  rotate_left
  · intro w'
    go_simp
    with_reducible rfl
  rotate_left
  · simp only [Act.put, List.setIfInBounds_toArray, List.set_cons_zero, List.set_cons_succ, i64_w, i32_w]
    rfl
  refine one_ (i := 10) (N := none) #[true, true, true, true, true, true, true, true, true, true, true] rfl rfl (one_of HT_.out (by kernel_rfl)) (by decide) (fun K hK => ?_)
  have hs8 : w6.cell? ⟨gb189, 0, none⟩ = some (.bool false) := (blk_cell BK189.out 0).trans rfl
  have hfs8 := blk_frozen BK189.out 0
  have hns8_0 := NB188_189.out
  have hms8_0 := NB189_188.out
  have hs9 : w6.cell? ⟨gb189, 1, none⟩ = some (.slice none 0 0) := (blk_cell BK189.out 1).trans rfl
  have hfs9 := blk_frozen BK189.out 1
  have hns9_0 := NB188_189.out
  have hms9_0 := NB189_188.out
  have hs10 : w6.cell? ⟨gb189, 2, none⟩ = some (.string (⟨#[]⟩ : ByteArray)) := (blk_cell BK189.out 2).trans rfl
  have hfs10 := blk_frozen BK189.out 2
  have hns10_0 := NB188_189.out
  have hms10_0 := NB189_188.out
  have hs11 : w6.cell? ⟨gb189, 3, none⟩ = some (.string (⟨#[]⟩ : ByteArray)) := (blk_cell BK189.out 3).trans rfl
  have hfs11 := blk_frozen BK189.out 3
  have hns11_0 := NB188_189.out
  have hms11_0 := NB189_188.out
  refine skip_ (w1 := ?_) (by rfl) rfl ?_ ?_
  rotate_left
  · go_simp
    rfl
  refine hK.out _ _ ⟨((cell_far (p := ⟨gb189, _, none⟩) NB188_189.out _).trans (((cell_far (p := ⟨gb189, _, none⟩) NB188_189.out _).trans (((cell_far (p := ⟨gb189, _, none⟩) NB188_189.out _).trans (((cell_far (p := ⟨gb189, _, none⟩) NB188_189.out _).trans (hHeld.1)))))))), ((cell_far (p := ⟨gb189, _, none⟩) NB188_189.out _).trans (((cell_far (p := ⟨gb189, _, none⟩) NB188_189.out _).trans (((cell_far (p := ⟨gb189, _, none⟩) NB188_189.out _).trans (((cell_far (p := ⟨gb189, _, none⟩) NB188_189.out _).trans (hHeld.2.1)))))))), ((cell_far (p := ⟨gb189, _, none⟩) NB188_189.out _).trans (((cell_far (p := ⟨gb189, _, none⟩) NB188_189.out _).trans (((cell_far (p := ⟨gb189, _, none⟩) NB188_189.out _).trans (((cell_far (p := ⟨gb189, _, none⟩) NB188_189.out _).trans (hHeld.2.2.1)))))))), ((cell_far (p := ⟨gb189, _, none⟩) NB188_189.out _).trans (((cell_far (p := ⟨gb189, _, none⟩) NB188_189.out _).trans (((cell_far (p := ⟨gb189, _, none⟩) NB188_189.out _).trans (((cell_far (p := ⟨gb189, _, none⟩) NB188_189.out _).trans (hHeld.2.2.2))))))))⟩ (fun hHeld => ?_)
  clear hK K
  refine done_ (done_of HT_.out (by kernel_rfl)) ?_
  try go_wp2
  refine bodyPost_ret (results_cell_row rfl _ _ gb189 42 #[.bool a0_0, .slice Ao7 (zsOf l0_1).length co7, .string a0_2, .string a0_3] (0, 0) _ rfl (by (with_reducible repeat (first | refine blk_drewN ?_ _ | refine blk_drew ?_ | refine blk_alloc ?_ _)); refine blk_put (cs := #[.bool a0_0, .slice Ao7 (zsOf l0_1).length co7, .string a0_2, .string (⟨#[]⟩ : ByteArray)]) ?_ 3 _ rfl; (with_reducible repeat (first | refine blk_drewN ?_ _ | refine blk_drew ?_ | refine blk_alloc ?_ _)); refine blk_put (cs := #[.bool a0_0, .slice Ao7 (zsOf l0_1).length co7, .string (⟨#[]⟩ : ByteArray), .string (⟨#[]⟩ : ByteArray)]) ?_ 2 _ rfl; (with_reducible repeat (first | refine blk_drewN ?_ _ | refine blk_drew ?_ | refine blk_alloc ?_ _)); refine blk_put (cs := #[.bool a0_0, .slice none 0 0, .string (⟨#[]⟩ : ByteArray), .string (⟨#[]⟩ : ByteArray)]) ?_ 1 _ rfl; (with_reducible repeat (first | refine blk_drewN ?_ _ | refine blk_drew ?_ | refine blk_alloc ?_ _)); refine blk_put (cs := #[.bool false, .slice none 0 0, .string (⟨#[]⟩ : ByteArray), .string (⟨#[]⟩ : ByteArray)]) ?_ 0 _ rfl; (with_reducible repeat (first | refine blk_drewN ?_ _ | refine blk_drew ?_ | refine blk_alloc ?_ _)); exact BK189.out) Tryz.underlying42 rfl (by kernel_rfl)) rfl ?_
  exact ⟨_, _, rfl, BOwn.put4 HO192.out BK189.out (by decide) (by decide) (.bool a0_0) (.slice Ao7 (zsOf l0_1).length co7) (.string a0_2) (.string a0_3), by repeat (first | (with_reducible first | exact HB.out | apply below_alloc | apply pw_below_drewN | apply below_drew1 | refine below_set ?_ GE188.out | refine below_set ?_ GE189.out) | exact HB.out)⟩
end Go.Proofs.YtdpeadckejhloaaGreatDoor.Giv
