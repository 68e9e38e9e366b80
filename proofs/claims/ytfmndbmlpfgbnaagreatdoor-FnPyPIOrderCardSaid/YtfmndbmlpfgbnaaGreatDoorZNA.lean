/- Several texts of this claim in one. Put together by wip/tool/merge.py. -/
import Derived.Test.YtfmndbmlpfgbnaaGreatDoorZM
import Derived.Test.YtfmndbmlpfgbnaaGreatDoorQNx1
import Derived.Test.YtfmndbmlpfgbnaaGreatDoorGivLq
import Derived.Test.YtfmndbmlpfgbnaaGreatDoorWMore
import Derived.Deep.RegionHeld3
import Derived.Deep.MidRow
/- Contract by hand: plain numbers as pointers to numbers (zzBigs). -/
namespace Go.Proofs.YtfmndbmlpfgbnaaGreatDoor.Giv
open Go.RowKit Go.Proofs.YtfmndbmlpfgbnaaGreatDoorW.PrintWords Go.Proofs.YtfmndbmlpfgbnaaGreatDoorW.PrintLast Go.Proofs.YtfmndbmlpfgbnaaGreatDoor.Pk Go.Proofs.YtfmndbmlpfgbnaaGreatDoor.Ord Go.Proofs.YtfmndbmlpfgbnaaGreatDoor.QN
set_option linter.unusedVariables false
set_option linter.unusedSimpArgs false

theorem ptrInfoZ : (Tryz.prog.info? 45).map (fun i => (i.zero, i.size, i.bytes)) = some (some (.pointer none), 1, 8) := by kernel_rfl
/-- What plain numbers tell. -/
def zsOf (l : List S56) : List Int := l.map fun x => zOf x.f0 x.f1
theorem zsOf_len (l : List S56) : (zsOf l).length = l.length := by simp [zsOf]
set_option maxHeartbeats 4000000 in
set_option maxRecDepth 100000 in
theorem zzBigs_calls (A : Option Addr) (c : Nat) (l : List S56) (w : World) (hr : Kd.C k56 w A l.length l) (hl : l.length ≤ 100000) (hs : ∀ x ∈ l, x.f1.size ≤ 100000) :
    Calls Tryz.prog 36 #[.slice A l.length c] w fun e w' => ∃ v, e = .returned v ∧ BOwn w' w.heap.size v (zsOf l) ∧ Below w.heap.size w w' := by
  have HR := Aside0.mk hr
  clear hr
  go_enter Tryz.func36, Tryz.ntmps36
  go_wp2_with fail
  go_loopw [3, 8] (fun v3 v8 wr => ∃ (k : Nat), v8 = .int .i64 k ∧ k ≤ l.length ∧ Aside0 (BOwn wr w.heap.size v3 (zsOf (l.take k))) ∧ Aside0 (Below w.heap.size w wr)) (fun v3 v8 wr => l.length - (match v8 with | .int _ n => n.toNat | _ => 0))
  case atStart => exact ⟨0, rfl, Nat.zero_le _, Aside0.mk (BOwn.nil w w.heap.size), Aside0.mk (Below.refl _ _)⟩
  case round =>
    obtain ⟨k, rfl, hk, HB, BL⟩ := hrel
    by_cases hlt : k < l.length
    · obtain ⟨ad, rfl, c0, c1⟩ := at_T56 HR.out (k : Int) (by omega) (by omega)
      replace c0 := (BL.out.cell (World.block_lt_of_cell? w _ c0)).trans c0
      replace c1 := (BL.out.cell (World.block_lt_of_cell? w _ c1)).trans c1
      have er : rd_T56 l (k : Int) = l[k]'hlt := by
        unfold rd_T56
        rw [Int.toNat_natCast, List.getD_eq_getElem?_getD, List.getElem?_eq_getElem hlt]
        rfl
      rw [er, Int.toNat_natCast] at c0 c1
      have hsx := hs _ (List.getElem_mem hlt)
      have nx : zsOf (l.take k) ++ [zOf (l[k]'hlt).f0 (l[k]'hlt).f1] = zsOf (l.take (k + 1)) := by
        unfold zsOf
        rw [List.take_succ_eq_append_getElem hlt, List.map_append]
        rfl
      have NX := Aside0.mk nx
      have LEN := Aside0.mk (show (zsOf (l.take k)).length = k by rw [zsOf_len, List.length_take]; omega)
      clear nx er
      generalize l[k]'hlt = x at *
      obtain ⟨ng, mg⟩ := x
      have k4 := blk_new wr (Obj.cells #[Value.bool false, .string ⟨#[]⟩] 56)
      have p0 := blk_cell k4 0
      have p1 := blk_cell k4 1
      have f0 := Lib.frozen_of_heap k4 0
      have f1 := Lib.frozen_of_heap k4 1
      have lt4 := blk_lt k4
      have k5 := blk_new wr (Obj.cells #[Value.bool ng, .string mg] 56)
      have q0 := blk_cell k5 0
      have q1 := blk_cell k5 1
      have A5 := Aside0.mk (below_alloc (Below.refl wr.heap.size wr) (Obj.cells #[Value.bool ng, .string mg] 56))
      have zb := fun (w' : World) => zzBig_calls ng mg w' hsx
      have f4 : (k : Int) < (l.length : Int) := Int.ofNat_lt.2 hlt
      have WK := Aside0.mk (Pk.wr k (by omega))
      have KL := Aside0.mk hlt
      have HL := Aside0.mk hl
      clear k4 k5 hs hlt hl hk
      go_wp2_with (first | (go_at_call 35; (with_reducible refine (zb _).mono ?_); rintro e w3 ⟨p, rfl, hp, d3⟩; have B3 := below_then A5.out A5.out.size d3; have BL3 := Aside0.mk (below_then BL.out BL.out.size B3); have BS3 := Aside0.mk (Nat.le_trans BL.out.size B3.size); obtain ⟨qs, hq1, hq2⟩ := HB.out.below B3; have HQ1 := Aside0.mk hq1; have HQ2 := Aside0.mk hq2; have Q2 := Aside0.mk hp; have QL := Aside0.mk (show (qs.length + 1) * 8 ≤ 140737488355328 by rw [hq2.1, LEN.out]; have := KL.out; have := HL.out; omega); clear B3 hq1 hq2 hp d3) | ((with_reducible refine gate_builtin (b := .append) (xs := #[.tmp 12, .tmp 15]) rfl ?_); at_builtin; refine Kd.R_append ptrK (w0 := w) w.heap.size rfl (.tmp 12) (.tmp 15) 46 45 (.pointer none) 8 rfl Tryz.underlying46 ptrInfoZ rfl (by decide) (by omega) u3 qs p [.pointer (some ⟨p, 0, none⟩)] (fun _ => True) (fun _ => False) rfl rfl ?aP (fun _ hk => hk.elim) ?aF ?aO ?aB ?aS ?aL ?_; (case aP => exact rfl); (case aF => exact (fun _ _ => trivial)); (case aO => exact HQ1.out); (case aB => exact BL3.out); (case aS => exact BS3.out); (case aL => exact QL.out); intro v5 w5 ho hb hg hat; have HO := Aside0.mk (BOwn.more HQ1.out HQ2.out Q2.out ho hg); have BL5 := Aside0.mk hb; clear ho hb hg hat))
      refine ⟨⟨k + 1, ?_, KL.out, Aside0.mk (NX.out ▸ HO.out), BL5⟩, ?_⟩
      · rw [WK.out]
      · have := KL.out
        simp only [WK.out, Int.toNat_natCast]
        omega
    · obtain rfl : k = l.length := by omega
      have f4 : ¬ (l.length : Int) < (l.length : Int) := by omega
      have e := HB.out
      rw [List.take_of_length_le (Nat.le_refl _)] at e
      have HE := Aside0.mk e
      clear e
      go_wp2_with fail
      go_ret
      exact ⟨_, rfl, HE.out, BL.out⟩
end Go.Proofs.YtfmndbmlpfgbnaaGreatDoor.Giv
/- Contract by hand: versions of PyPI made of a release and a local part (ZZPyPIVersion). -/
namespace Go.Proofs.YtfmndbmlpfgbnaaGreatDoor.Giv
open Go.RowKit Go.Proofs.YtfmndbmlpfgbnaaGreatDoorW.PrintWords Go.Proofs.YtfmndbmlpfgbnaaGreatDoorW.PrintLast Go.Proofs.YtfmndbmlpfgbnaaGreatDoor.Pk Go.Proofs.YtfmndbmlpfgbnaaGreatDoor.Ord Go.Proofs.YtfmndbmlpfgbnaaGreatDoor.QN
set_option linter.unusedVariables false
set_option linter.unusedSimpArgs false

set_option maxRecDepth 100000 in
theorem letter_zero (w : World) : Calls Tryz.prog 37 #[.agg #[.bool false, .string ⟨#[]⟩, .bool false, .string ⟨#[]⟩]] w fun e w' => e = .returned (.agg #[.string ⟨#[]⟩, .pointer none]) ∧ Below w.heap.size w w' := by
  have b1 := below_alloc (below_alloc (Below.refl w.heap.size w) (Obj.cells #[.bool false, .string ⟨#[]⟩, .bool false, .string ⟨#[]⟩] 60)) (Obj.cells #[.string ⟨#[]⟩, .pointer none] 49)
  have B1 := Aside0.mk b1
  clear b1
  go_enter Tryz.func37, Tryz.ntmps37
  go_wp2_with fail
  exact bodyPost_ret (results_cell_row rfl _ _ (w.heap.size + 1) 49 #[.string ⟨#[]⟩, .pointer none] (0, 0) _ rfl (by have := blk_new (w.alloc (Obj.cells #[.bool false, .string ⟨#[]⟩, .bool false, .string ⟨#[]⟩] 60)) (Obj.cells #[.string ⟨#[]⟩, .pointer none] 49); simpa using this) Tryz.underlying49 rfl (by kernel_rfl)) rfl ⟨rfl, B1.out⟩
set_option maxRecDepth 100000 in
theorem implLetter_zero (w : World) : Calls Tryz.prog 30 #[.agg #[.bool false, .string ⟨#[]⟩, .bool false, .string ⟨#[]⟩]] w fun e w' => e = .returned (.agg #[.bool false, .string ⟨#[]⟩, .bool false, .string ⟨#[]⟩]) ∧ Below w.heap.size w w' := by
  have b1 := below_alloc (below_alloc (Below.refl w.heap.size w) (Obj.cells #[.bool false, .string ⟨#[]⟩, .bool false, .string ⟨#[]⟩] 26)) (Obj.cells #[.bool false, .string ⟨#[]⟩, .bool false, .string ⟨#[]⟩] 60)
  have B1 := Aside0.mk b1
  clear b1
  go_enter Tryz.func30, Tryz.ntmps30
  go_wp2_with fail
  exact bodyPost_ret (results_cell_row rfl _ _ (w.heap.size + 1) 60 #[.bool false, .string ⟨#[]⟩, .bool false, .string ⟨#[]⟩] (0, 0) _ rfl (by have := blk_new (w.alloc (Obj.cells #[.bool false, .string ⟨#[]⟩, .bool false, .string ⟨#[]⟩] 26)) (Obj.cells #[.bool false, .string ⟨#[]⟩, .bool false, .string ⟨#[]⟩] 60); simpa using this) Tryz.underlying60 rfl (by kernel_rfl)) rfl ⟨rfl, B1.out⟩
theorem pyC_seg (x y : List UInt8) : pyC x y = Seg.segC x y := by
  cases hx : Num.parse x with
  | some p =>
    cases hy : Num.parse y with
    | some q => rw [pyC_nn hx hy, Seg.segC_nn hx hy]
    | none => rw [pyC_nt hx hy, Seg.segC_nt hx hy]
  | none =>
    cases hy : Num.parse y with
    | some q => rw [pyC_tn hx hy, Seg.segC_tn hx hy]
    | none => rw [pyC_tt hx hy, Seg.segC_tt hx hy]
theorem zOf_nil : zOf false ⟨#[]⟩ = 0 := by
  unfold zOf
  rw [show (⟨#[]⟩ : ByteArray) = bs [] from rfl, bs_toList]
  rfl
@[irreducible] def gv (g i : Nat) (w : World) : Value := (w.cell? ⟨g, i, none⟩).getD .nilIface
theorem gv_of {w : World} {g i : Nat} {v : Value} (h : w.cell? ⟨g, i, none⟩ = some v) : w.cell? ⟨g, i, none⟩ = some (gv g i w) := by
  unfold gv
  rw [h]
  rfl
/-- What stands while the version is filled. -/
abbrev PrS (A RA : Option Addr) (n c rn rc : Nat) (w0 w1 : World) : Prop := w1.cell? ⟨w0.heap.size, 0, none⟩ = some (.bool false) ∧ w1.cell? ⟨w0.heap.size, 1, none⟩ = some (.string ⟨#[]⟩) ∧ w1.cell? ⟨w0.heap.size, 2, none⟩ = some (.slice RA rn rc) ∧ w1.cell? ⟨w0.heap.size, 3, none⟩ = some (.bool false) ∧ w1.cell? ⟨w0.heap.size, 4, none⟩ = some (.string ⟨#[]⟩) ∧ w1.cell? ⟨w0.heap.size, 5, none⟩ = some (.bool false) ∧ w1.cell? ⟨w0.heap.size, 6, none⟩ = some (.string ⟨#[]⟩) ∧ w1.cell? ⟨w0.heap.size, 7, none⟩ = some (.bool false) ∧ w1.cell? ⟨w0.heap.size, 8, none⟩ = some (.string ⟨#[]⟩) ∧ w1.cell? ⟨w0.heap.size, 9, none⟩ = some (.bool false) ∧ w1.cell? ⟨w0.heap.size, 10, none⟩ = some (.string ⟨#[]⟩) ∧ w1.cell? ⟨w0.heap.size, 11, none⟩ = some (.bool false) ∧ w1.cell? ⟨w0.heap.size, 12, none⟩ = some (.string ⟨#[]⟩) ∧ w1.cell? ⟨w0.heap.size, 13, none⟩ = some (.bool false) ∧ w1.cell? ⟨w0.heap.size, 14, none⟩ = some (.string ⟨#[]⟩) ∧ w1.cell? ⟨w0.heap.size, 15, none⟩ = some (.slice A n c) ∧ w1.cell? ⟨w0.heap.size, 16, none⟩ = some (.slice none 0 0) ∧ w0.heap.size + 1 < w1.heap.size ∧ w1.cell? ⟨w0.heap.size + 1, 0, none⟩ = some (gv (w0.heap.size + 1) 0 w1) ∧ w1.cell? ⟨w0.heap.size + 1, 1, none⟩ = some (gv (w0.heap.size + 1) 1 w1) ∧ w1.cell? ⟨w0.heap.size + 1, 2, none⟩ = some (gv (w0.heap.size + 1) 2 w1) ∧ w1.cell? ⟨w0.heap.size + 1, 3, none⟩ = some (gv (w0.heap.size + 1) 3 w1) ∧ w1.cell? ⟨w0.heap.size + 1, 4, none⟩ = some (gv (w0.heap.size + 1) 4 w1) ∧ w1.cell? ⟨w0.heap.size + 1, 5, none⟩ = some (gv (w0.heap.size + 1) 5 w1) ∧ w1.cell? ⟨w0.heap.size + 1, 6, none⟩ = some (gv (w0.heap.size + 1) 6 w1) ∧ w1.cell? ⟨w0.heap.size + 1, 7, none⟩ = some (gv (w0.heap.size + 1) 7 w1) ∧ w1.cell? ⟨w0.heap.size + 1, 8, none⟩ = some (gv (w0.heap.size + 1) 8 w1) ∧ w1.cell? ⟨w0.heap.size + 1, 9, none⟩ = some (gv (w0.heap.size + 1) 9 w1) ∧ w1.frozen? ⟨w0.heap.size + 1, 0, none⟩ = false ∧ w1.frozen? ⟨w0.heap.size + 1, 1, none⟩ = false ∧ w1.frozen? ⟨w0.heap.size + 1, 2, none⟩ = false ∧ w1.frozen? ⟨w0.heap.size + 1, 3, none⟩ = false ∧ w1.frozen? ⟨w0.heap.size + 1, 4, none⟩ = false ∧ w1.frozen? ⟨w0.heap.size + 1, 5, none⟩ = false ∧ w1.frozen? ⟨w0.heap.size + 1, 6, none⟩ = false ∧ w1.frozen? ⟨w0.heap.size + 1, 7, none⟩ = false ∧ w1.frozen? ⟨w0.heap.size + 1, 8, none⟩ = false ∧ w1.frozen? ⟨w0.heap.size + 1, 9, none⟩ = false ∧ (∃ x0 x1 x2 x3 x4 x5 x6 x7 x8 x9, w1.heap[w0.heap.size + 1]? = some (Obj.cells #[x0, x1, x2, x3, x4, x5, x6, x7, x8, x9] 51 (0, 0))) ∧ Below w0.heap.size w0 w1
theorem prMk {A RA : Option Addr} {n c rn rc : Nat} {w0 w1 : World} (h : w1.cell? ⟨w0.heap.size, 0, none⟩ = some (.bool false) ∧ w1.cell? ⟨w0.heap.size, 1, none⟩ = some (.string ⟨#[]⟩) ∧ w1.cell? ⟨w0.heap.size, 2, none⟩ = some (.slice RA rn rc) ∧ w1.cell? ⟨w0.heap.size, 3, none⟩ = some (.bool false) ∧ w1.cell? ⟨w0.heap.size, 4, none⟩ = some (.string ⟨#[]⟩) ∧ w1.cell? ⟨w0.heap.size, 5, none⟩ = some (.bool false) ∧ w1.cell? ⟨w0.heap.size, 6, none⟩ = some (.string ⟨#[]⟩) ∧ w1.cell? ⟨w0.heap.size, 7, none⟩ = some (.bool false) ∧ w1.cell? ⟨w0.heap.size, 8, none⟩ = some (.string ⟨#[]⟩) ∧ w1.cell? ⟨w0.heap.size, 9, none⟩ = some (.bool false) ∧ w1.cell? ⟨w0.heap.size, 10, none⟩ = some (.string ⟨#[]⟩) ∧ w1.cell? ⟨w0.heap.size, 11, none⟩ = some (.bool false) ∧ w1.cell? ⟨w0.heap.size, 12, none⟩ = some (.string ⟨#[]⟩) ∧ w1.cell? ⟨w0.heap.size, 13, none⟩ = some (.bool false) ∧ w1.cell? ⟨w0.heap.size, 14, none⟩ = some (.string ⟨#[]⟩) ∧ w1.cell? ⟨w0.heap.size, 15, none⟩ = some (.slice A n c) ∧ w1.cell? ⟨w0.heap.size, 16, none⟩ = some (.slice none 0 0)) (hx : (∃ x0 x1 x2 x3 x4 x5 x6 x7 x8 x9, w1.heap[w0.heap.size + 1]? = some (Obj.cells #[x0, x1, x2, x3, x4, x5, x6, x7, x8, x9] 51 (0, 0)))) (h18 : Below w0.heap.size w0 w1) : PrS A RA n c rn rc w0 w1 := by
  obtain ⟨h0, h1, h2, h3, h4, h5, h6, h7, h8, h9, h10, h11, h12, h13, h14, h15, h16⟩ := h
  obtain ⟨x0, x1, x2, x3, x4, x5, x6, x7, x8, x9, h17⟩ := hx
  exact ⟨h0, h1, h2, h3, h4, h5, h6, h7, h8, h9, h10, h11, h12, h13, h14, h15, h16, blk_lt h17, gv_of (blk_cell h17 0), gv_of (blk_cell h17 1), gv_of (blk_cell h17 2), gv_of (blk_cell h17 3), gv_of (blk_cell h17 4), gv_of (blk_cell h17 5), gv_of (blk_cell h17 6), gv_of (blk_cell h17 7), gv_of (blk_cell h17 8), gv_of (blk_cell h17 9), Lib.frozen_of_heap h17 0, Lib.frozen_of_heap h17 1, Lib.frozen_of_heap h17 2, Lib.frozen_of_heap h17 3, Lib.frozen_of_heap h17 4, Lib.frozen_of_heap h17 5, Lib.frozen_of_heap h17 6, Lib.frozen_of_heap h17 7, Lib.frozen_of_heap h17 8, Lib.frozen_of_heap h17 9, ⟨x0, x1, x2, x3, x4, x5, x6, x7, x8, x9, h17⟩, h18⟩
theorem prS {A RA : Option Addr} {n c rn rc : Nat} {w0 w1 w2 : World} (h : PrS A RA n c rn rc w0 w1) (d : Below w1.heap.size w1 w2) : PrS A RA n c rn rc w0 w2 := by
  obtain ⟨h0, h1, h2, h3, h4, h5, h6, h7, h8, h9, h10, h11, h12, h13, h14, h15, h16, _, _, _, _, _, _, _, _, _, _, _, _, _, _, _, _, _, _, _, _, _, ⟨x0, x1, x2, x3, x4, x5, x6, x7, x8, x9, h17⟩, h18⟩ := h
  exact prMk ⟨pw_cell_below d h0, pw_cell_below d h1, pw_cell_below d h2, pw_cell_below d h3, pw_cell_below d h4, pw_cell_below d h5, pw_cell_below d h6, pw_cell_below d h7, pw_cell_below d h8, pw_cell_below d h9, pw_cell_below d h10, pw_cell_below d h11, pw_cell_below d h12, pw_cell_below d h13, pw_cell_below d h14, pw_cell_below d h15, pw_cell_below d h16⟩ ⟨x0, x1, x2, x3, x4, x5, x6, x7, x8, x9, (d.block _ (blk_lt h17)).trans h17⟩ (h18.trans (d.mono h18.size))
theorem prStore {A RA : Option Addr} {n c rn rc : Nat} {w0 w1 : World} (v0 v1 v2 v3 v4 v5 v6 v7 v8 v9 : Value) (h : PrS A RA n c rn rc w0 w1) : PrS A RA n c rn rc w0 ((((((((((w1.setCell ⟨w0.heap.size + 1, 0, none⟩ v0).setCell ⟨w0.heap.size + 1, 1, none⟩ v1).setCell ⟨w0.heap.size + 1, 2, none⟩ v2).setCell ⟨w0.heap.size + 1, 3, none⟩ v3).setCell ⟨w0.heap.size + 1, 4, none⟩ v4).setCell ⟨w0.heap.size + 1, 5, none⟩ v5).setCell ⟨w0.heap.size + 1, 6, none⟩ v6).setCell ⟨w0.heap.size + 1, 7, none⟩ v7).setCell ⟨w0.heap.size + 1, 8, none⟩ v8).setCell ⟨w0.heap.size + 1, 9, none⟩ v9) := by
  obtain ⟨h0, h1, h2, h3, h4, h5, h6, h7, h8, h9, h10, h11, h12, h13, h14, h15, h16, _, _, _, _, _, _, _, _, _, _, _, _, _, _, _, _, _, _, _, _, _, ⟨x0, x1, x2, x3, x4, x5, x6, x7, x8, x9, h17⟩, h18⟩ := h
  have b : Below (w0.heap.size + 1) w1 ((((((((((w1.setCell ⟨w0.heap.size + 1, 0, none⟩ v0).setCell ⟨w0.heap.size + 1, 1, none⟩ v1).setCell ⟨w0.heap.size + 1, 2, none⟩ v2).setCell ⟨w0.heap.size + 1, 3, none⟩ v3).setCell ⟨w0.heap.size + 1, 4, none⟩ v4).setCell ⟨w0.heap.size + 1, 5, none⟩ v5).setCell ⟨w0.heap.size + 1, 6, none⟩ v6).setCell ⟨w0.heap.size + 1, 7, none⟩ v7).setCell ⟨w0.heap.size + 1, 8, none⟩ v8).setCell ⟨w0.heap.size + 1, 9, none⟩ v9) := (((((((((((Below.refl (w0.heap.size + 1) w1).setCell (p := ⟨w0.heap.size + 1, 0, none⟩) (Nat.le_refl _) v0).setCell (p := ⟨w0.heap.size + 1, 1, none⟩) (Nat.le_refl _) v1).setCell (p := ⟨w0.heap.size + 1, 2, none⟩) (Nat.le_refl _) v2).setCell (p := ⟨w0.heap.size + 1, 3, none⟩) (Nat.le_refl _) v3).setCell (p := ⟨w0.heap.size + 1, 4, none⟩) (Nat.le_refl _) v4).setCell (p := ⟨w0.heap.size + 1, 5, none⟩) (Nat.le_refl _) v5).setCell (p := ⟨w0.heap.size + 1, 6, none⟩) (Nat.le_refl _) v6).setCell (p := ⟨w0.heap.size + 1, 7, none⟩) (Nat.le_refl _) v7).setCell (p := ⟨w0.heap.size + 1, 8, none⟩) (Nat.le_refl _) v8).setCell (p := ⟨w0.heap.size + 1, 9, none⟩) (Nat.le_refl _) v9)
  exact prMk ⟨(b.cell (Nat.lt_succ_self _)).trans h0, (b.cell (Nat.lt_succ_self _)).trans h1, (b.cell (Nat.lt_succ_self _)).trans h2, (b.cell (Nat.lt_succ_self _)).trans h3, (b.cell (Nat.lt_succ_self _)).trans h4, (b.cell (Nat.lt_succ_self _)).trans h5, (b.cell (Nat.lt_succ_self _)).trans h6, (b.cell (Nat.lt_succ_self _)).trans h7, (b.cell (Nat.lt_succ_self _)).trans h8, (b.cell (Nat.lt_succ_self _)).trans h9, (b.cell (Nat.lt_succ_self _)).trans h10, (b.cell (Nat.lt_succ_self _)).trans h11, (b.cell (Nat.lt_succ_self _)).trans h12, (b.cell (Nat.lt_succ_self _)).trans h13, (b.cell (Nat.lt_succ_self _)).trans h14, (b.cell (Nat.lt_succ_self _)).trans h15, (b.cell (Nat.lt_succ_self _)).trans h16⟩ ⟨v0, v1, v2, v3, v4, v5, v6, v7, v8, v9, (blk_put (cs := #[v0, v1, v2, v3, v4, v5, v6, v7, v8, x9]) (blk_put (cs := #[v0, v1, v2, v3, v4, v5, v6, v7, x8, x9]) (blk_put (cs := #[v0, v1, v2, v3, v4, v5, v6, x7, x8, x9]) (blk_put (cs := #[v0, v1, v2, v3, v4, v5, x6, x7, x8, x9]) (blk_put (cs := #[v0, v1, v2, v3, v4, x5, x6, x7, x8, x9]) (blk_put (cs := #[v0, v1, v2, v3, x4, x5, x6, x7, x8, x9]) (blk_put (cs := #[v0, v1, v2, x3, x4, x5, x6, x7, x8, x9]) (blk_put (cs := #[v0, v1, x2, x3, x4, x5, x6, x7, x8, x9]) (blk_put (cs := #[v0, x1, x2, x3, x4, x5, x6, x7, x8, x9]) (blk_put (cs := #[x0, x1, x2, x3, x4, x5, x6, x7, x8, x9]) h17 0 v0 rfl) 1 v1 rfl) 2 v2 rfl) 3 v3 rfl) 4 v4 rfl) 5 v5 rfl) 6 v6 rfl) 7 v7 rfl) 8 v8 rfl) 9 v9 rfl)⟩ ((((((((((h18.setCell (p := ⟨w0.heap.size + 1, 0, none⟩) (Nat.le_succ _) v0).setCell (p := ⟨w0.heap.size + 1, 1, none⟩) (Nat.le_succ _) v1).setCell (p := ⟨w0.heap.size + 1, 2, none⟩) (Nat.le_succ _) v2).setCell (p := ⟨w0.heap.size + 1, 3, none⟩) (Nat.le_succ _) v3).setCell (p := ⟨w0.heap.size + 1, 4, none⟩) (Nat.le_succ _) v4).setCell (p := ⟨w0.heap.size + 1, 5, none⟩) (Nat.le_succ _) v5).setCell (p := ⟨w0.heap.size + 1, 6, none⟩) (Nat.le_succ _) v6).setCell (p := ⟨w0.heap.size + 1, 7, none⟩) (Nat.le_succ _) v7).setCell (p := ⟨w0.heap.size + 1, 8, none⟩) (Nat.le_succ _) v8).setCell (p := ⟨w0.heap.size + 1, 9, none⟩) (Nat.le_succ _) v9)
theorem prPut {A RA : Option Addr} {n c rn rc : Nat} {w0 w1 : World} (v0 v1 v2 v3 v4 v5 v6 v7 v8 v9 : Value) (h : PrS A RA n c rn rc w0 w1) : ((((((((((w1.setCell ⟨w0.heap.size + 1, 0, none⟩ v0).setCell ⟨w0.heap.size + 1, 1, none⟩ v1).setCell ⟨w0.heap.size + 1, 2, none⟩ v2).setCell ⟨w0.heap.size + 1, 3, none⟩ v3).setCell ⟨w0.heap.size + 1, 4, none⟩ v4).setCell ⟨w0.heap.size + 1, 5, none⟩ v5).setCell ⟨w0.heap.size + 1, 6, none⟩ v6).setCell ⟨w0.heap.size + 1, 7, none⟩ v7).setCell ⟨w0.heap.size + 1, 8, none⟩ v8).setCell ⟨w0.heap.size + 1, 9, none⟩ v9).heap[w0.heap.size + 1]? = some (Obj.cells #[v0, v1, v2, v3, v4, v5, v6, v7, v8, v9] 51 (0, 0)) ∧ Below w0.heap.size w0 ((((((((((w1.setCell ⟨w0.heap.size + 1, 0, none⟩ v0).setCell ⟨w0.heap.size + 1, 1, none⟩ v1).setCell ⟨w0.heap.size + 1, 2, none⟩ v2).setCell ⟨w0.heap.size + 1, 3, none⟩ v3).setCell ⟨w0.heap.size + 1, 4, none⟩ v4).setCell ⟨w0.heap.size + 1, 5, none⟩ v5).setCell ⟨w0.heap.size + 1, 6, none⟩ v6).setCell ⟨w0.heap.size + 1, 7, none⟩ v7).setCell ⟨w0.heap.size + 1, 8, none⟩ v8).setCell ⟨w0.heap.size + 1, 9, none⟩ v9) := by
  obtain ⟨h0, h1, h2, h3, h4, h5, h6, h7, h8, h9, h10, h11, h12, h13, h14, h15, h16, _, _, _, _, _, _, _, _, _, _, _, _, _, _, _, _, _, _, _, _, _, ⟨x0, x1, x2, x3, x4, x5, x6, x7, x8, x9, h17⟩, h18⟩ := h
  exact ⟨(blk_put (cs := #[v0, v1, v2, v3, v4, v5, v6, v7, v8, x9]) (blk_put (cs := #[v0, v1, v2, v3, v4, v5, v6, v7, x8, x9]) (blk_put (cs := #[v0, v1, v2, v3, v4, v5, v6, x7, x8, x9]) (blk_put (cs := #[v0, v1, v2, v3, v4, v5, x6, x7, x8, x9]) (blk_put (cs := #[v0, v1, v2, v3, v4, x5, x6, x7, x8, x9]) (blk_put (cs := #[v0, v1, v2, v3, x4, x5, x6, x7, x8, x9]) (blk_put (cs := #[v0, v1, v2, x3, x4, x5, x6, x7, x8, x9]) (blk_put (cs := #[v0, v1, x2, x3, x4, x5, x6, x7, x8, x9]) (blk_put (cs := #[v0, x1, x2, x3, x4, x5, x6, x7, x8, x9]) (blk_put (cs := #[x0, x1, x2, x3, x4, x5, x6, x7, x8, x9]) h17 0 v0 rfl) 1 v1 rfl) 2 v2 rfl) 3 v3 rfl) 4 v4 rfl) 5 v5 rfl) 6 v6 rfl) 7 v7 rfl) 8 v8 rfl) 9 v9 rfl), ((((((((((h18.setCell (p := ⟨w0.heap.size + 1, 0, none⟩) (Nat.le_succ _) v0).setCell (p := ⟨w0.heap.size + 1, 1, none⟩) (Nat.le_succ _) v1).setCell (p := ⟨w0.heap.size + 1, 2, none⟩) (Nat.le_succ _) v2).setCell (p := ⟨w0.heap.size + 1, 3, none⟩) (Nat.le_succ _) v3).setCell (p := ⟨w0.heap.size + 1, 4, none⟩) (Nat.le_succ _) v4).setCell (p := ⟨w0.heap.size + 1, 5, none⟩) (Nat.le_succ _) v5).setCell (p := ⟨w0.heap.size + 1, 6, none⟩) (Nat.le_succ _) v6).setCell (p := ⟨w0.heap.size + 1, 7, none⟩) (Nat.le_succ _) v7).setCell (p := ⟨w0.heap.size + 1, 8, none⟩) (Nat.le_succ _) v8).setCell (p := ⟨w0.heap.size + 1, 9, none⟩) (Nat.le_succ _) v9)⟩
theorem prKeep {A RA : Option Addr} {n c rn rc : Nat} {w0 w1 : World} (v0 v1 v2 v3 v4 v5 v6 v7 v8 v9 : Value) (F : World → Prop) (hF : ∀ (w : World) (cs : Array Value) (j : Nat) (u : Value), w.heap[w0.heap.size + 1]? = some (Obj.cells cs 51 (0, 0)) → F w → F (w.setCell ⟨w0.heap.size + 1, j, none⟩ u)) (h0 : F w1) (h : PrS A RA n c rn rc w0 w1) : F ((((((((((w1.setCell ⟨w0.heap.size + 1, 0, none⟩ v0).setCell ⟨w0.heap.size + 1, 1, none⟩ v1).setCell ⟨w0.heap.size + 1, 2, none⟩ v2).setCell ⟨w0.heap.size + 1, 3, none⟩ v3).setCell ⟨w0.heap.size + 1, 4, none⟩ v4).setCell ⟨w0.heap.size + 1, 5, none⟩ v5).setCell ⟨w0.heap.size + 1, 6, none⟩ v6).setCell ⟨w0.heap.size + 1, 7, none⟩ v7).setCell ⟨w0.heap.size + 1, 8, none⟩ v8).setCell ⟨w0.heap.size + 1, 9, none⟩ v9) := by
  obtain ⟨_, _, _, _, _, _, _, _, _, _, _, _, _, _, _, _, _, _, _, _, _, _, _, _, _, _, _, _, _, _, _, _, _, _, _, _, _, _, ⟨x0, x1, x2, x3, x4, x5, x6, x7, x8, x9, h17⟩, _⟩ := h
  have f0 := hF _ _ 0 v0 h17 h0
  have k0 := blk_put (cs := #[x0, x1, x2, x3, x4, x5, x6, x7, x8, x9]) h17 0 v0 rfl
  have f1 := hF _ _ 1 v1 k0 f0
  have k1 := blk_put (cs := #[v0, x1, x2, x3, x4, x5, x6, x7, x8, x9]) k0 1 v1 rfl
  have f2 := hF _ _ 2 v2 k1 f1
  have k2 := blk_put (cs := #[v0, v1, x2, x3, x4, x5, x6, x7, x8, x9]) k1 2 v2 rfl
  have f3 := hF _ _ 3 v3 k2 f2
  have k3 := blk_put (cs := #[v0, v1, v2, x3, x4, x5, x6, x7, x8, x9]) k2 3 v3 rfl
  have f4 := hF _ _ 4 v4 k3 f3
  have k4 := blk_put (cs := #[v0, v1, v2, v3, x4, x5, x6, x7, x8, x9]) k3 4 v4 rfl
  have f5 := hF _ _ 5 v5 k4 f4
  have k5 := blk_put (cs := #[v0, v1, v2, v3, v4, x5, x6, x7, x8, x9]) k4 5 v5 rfl
  have f6 := hF _ _ 6 v6 k5 f5
  have k6 := blk_put (cs := #[v0, v1, v2, v3, v4, v5, x6, x7, x8, x9]) k5 6 v6 rfl
  have f7 := hF _ _ 7 v7 k6 f6
  have k7 := blk_put (cs := #[v0, v1, v2, v3, v4, v5, v6, x7, x8, x9]) k6 7 v7 rfl
  have f8 := hF _ _ 8 v8 k7 f7
  have k8 := blk_put (cs := #[v0, v1, v2, v3, v4, v5, v6, v7, x8, x9]) k7 8 v8 rfl
  have f9 := hF _ _ 9 v9 k8 f8
  have k9 := blk_put (cs := #[v0, v1, v2, v3, v4, v5, v6, v7, v8, x9]) k8 9 v9 rfl
  exact f9
set_option maxRecDepth 100000 in
set_option maxHeartbeats 20000000 in
theorem pyRel_calls (A RA : Option Addr) (n c rn rc : Nat) (l : List S56) (w : World) (hrn : rn = l.length) (hr : Kd.C k56 w RA l.length l) (hl : l.length ≤ 100000) (hs : ∀ x ∈ l, x.f1.size ≤ 100000) :
    Calls Tryz.prog 28 #[.agg #[.bool false, .string ⟨#[]⟩, .slice RA rn rc, .bool false, .string ⟨#[]⟩, .bool false, .string ⟨#[]⟩, .bool false, .string ⟨#[]⟩, .bool false, .string ⟨#[]⟩, .bool false, .string ⟨#[]⟩, .bool false, .string ⟨#[]⟩, .slice A n c, .slice none 0 0]] w fun e w' => ∃ (p : Nat) (A' : Option Addr) (c' : Nat), e = .returned (.agg (loR (.pointer (some ⟨p, 0, none⟩)) (.slice A' l.length c') A n c)) ∧ IsBig w' p 0 ∧ (∃ bs0, BOwn w' bs0 (.slice A' l.length c') (zsOf l)) ∧ l.length ≤ c' ∧ Below w.heap.size w w' := by
  have HR := Aside0.mk hr
  clear hr
  have b2 := below_alloc (below_alloc (Below.refl w.heap.size w) (Obj.cells #[.bool false, .string ⟨#[]⟩, .slice RA rn rc, .bool false, .string ⟨#[]⟩, .bool false, .string ⟨#[]⟩, .bool false, .string ⟨#[]⟩, .bool false, .string ⟨#[]⟩, .bool false, .string ⟨#[]⟩, .bool false, .string ⟨#[]⟩, .slice A n c, .slice none 0 0] 63)) (Obj.cells #[.pointer none, .slice none 0 0, .string ⟨#[]⟩, .pointer none, .string ⟨#[]⟩, .pointer none, .string ⟨#[]⟩, .pointer none, .slice none 0 0, .slice none 0 0] 51)
  have k1 : ((w.alloc (Obj.cells #[.bool false, .string ⟨#[]⟩, .slice RA rn rc, .bool false, .string ⟨#[]⟩, .bool false, .string ⟨#[]⟩, .bool false, .string ⟨#[]⟩, .bool false, .string ⟨#[]⟩, .bool false, .string ⟨#[]⟩, .bool false, .string ⟨#[]⟩, .slice A n c, .slice none 0 0] 63)).alloc (Obj.cells #[.pointer none, .slice none 0 0, .string ⟨#[]⟩, .pointer none, .string ⟨#[]⟩, .pointer none, .string ⟨#[]⟩, .pointer none, .slice none 0 0, .slice none 0 0] 51)).heap[w.heap.size]? = some (Obj.cells #[.bool false, .string ⟨#[]⟩, .slice RA rn rc, .bool false, .string ⟨#[]⟩, .bool false, .string ⟨#[]⟩, .bool false, .string ⟨#[]⟩, .bool false, .string ⟨#[]⟩, .bool false, .string ⟨#[]⟩, .bool false, .string ⟨#[]⟩, .slice A n c, .slice none 0 0] 63) := blk_alloc (blk_new w _) _
  have m1 : ((w.alloc (Obj.cells #[.bool false, .string ⟨#[]⟩, .slice RA rn rc, .bool false, .string ⟨#[]⟩, .bool false, .string ⟨#[]⟩, .bool false, .string ⟨#[]⟩, .bool false, .string ⟨#[]⟩, .bool false, .string ⟨#[]⟩, .bool false, .string ⟨#[]⟩, .slice A n c, .slice none 0 0] 63)).alloc (Obj.cells #[.pointer none, .slice none 0 0, .string ⟨#[]⟩, .pointer none, .string ⟨#[]⟩, .pointer none, .string ⟨#[]⟩, .pointer none, .slice none 0 0, .slice none 0 0] 51)).heap[w.heap.size + 1]? = some (Obj.cells #[.pointer none, .slice none 0 0, .string ⟨#[]⟩, .pointer none, .string ⟨#[]⟩, .pointer none, .string ⟨#[]⟩, .pointer none, .slice none 0 0, .slice none 0 0] 51) := by
    have := blk_new (w.alloc (Obj.cells #[.bool false, .string ⟨#[]⟩, .slice RA rn rc, .bool false, .string ⟨#[]⟩, .bool false, .string ⟨#[]⟩, .bool false, .string ⟨#[]⟩, .bool false, .string ⟨#[]⟩, .bool false, .string ⟨#[]⟩, .bool false, .string ⟨#[]⟩, .slice A n c, .slice none 0 0] 63)) (Obj.cells #[.pointer none, .slice none 0 0, .string ⟨#[]⟩, .pointer none, .string ⟨#[]⟩, .pointer none, .string ⟨#[]⟩, .pointer none, .slice none 0 0, .slice none 0 0] 51)
    simpa using this
  have zb : ∀ w : World, Calls Tryz.prog 35 #[.agg #[.bool false, .string ⟨#[]⟩]] w fun e w' => ∃ p, e = .returned (.pointer (some ⟨p, 0, none⟩)) ∧ IsBig w' p 0 ∧ Below w.heap.size w w' := fun w => by
    have := zzBig_calls false ⟨#[]⟩ w (by decide)
    rwa [zOf_nil] at this
  have zs : ∀ w' : World, Below w.heap.size w w' → Calls Tryz.prog 36 #[.slice RA rn rc] w' fun e w'' => ∃ (A' : Option Addr) (c' : Nat), e = .returned (.slice A' l.length c') ∧ BOwn w'' w.heap.size (.slice A' l.length c') (zsOf l) ∧ l.length ≤ c' ∧ Below w'.heap.size w' w'' := fun w' d => by
    rw [hrn]
    refine (zzBigs_calls RA rc l w' (Kd.C_below HR.out d) hl hs).mono ?_
    rintro e w'' ⟨v, rfl, ho, d2⟩
    obtain ⟨A', c', rfl, hc, hb⟩ := ho.slice
    rw [zsOf_len] at hc ho
    exact ⟨A', c', by rw [zsOf_len], ho.lower d.size, hc, d2⟩
  clear hrn
  have lz := letter_zero
  go_enter Tryz.func28, Tryz.ntmps28
  go_wp2_with fail
  obtain ⟨W, eW⟩ : ∃ W, W = ((w.alloc (Obj.cells #[.bool false, .string ⟨#[]⟩, .slice RA rn rc, .bool false, .string ⟨#[]⟩, .bool false, .string ⟨#[]⟩, .bool false, .string ⟨#[]⟩, .bool false, .string ⟨#[]⟩, .bool false, .string ⟨#[]⟩, .bool false, .string ⟨#[]⟩, .slice A n c, .slice none 0 0] 63)).alloc (Obj.cells #[.pointer none, .slice none 0 0, .string ⟨#[]⟩, .pointer none, .string ⟨#[]⟩, .pointer none, .string ⟨#[]⟩, .pointer none, .slice none 0 0, .slice none 0 0] 51)) := ⟨_, rfl⟩
  rw [← eW] at b2 k1 m1 ⊢
  have HS := prMk (A := A) (RA := RA) (n := n) (c := c) (rn := rn) (rc := rc) (w0 := w) (w1 := W) ⟨blk_cell k1 0, blk_cell k1 1, blk_cell k1 2, blk_cell k1 3, blk_cell k1 4, blk_cell k1 5, blk_cell k1 6, blk_cell k1 7, blk_cell k1 8, blk_cell k1 9, blk_cell k1 10, blk_cell k1 11, blk_cell k1 12, blk_cell k1 13, blk_cell k1 14, blk_cell k1 15, blk_cell k1 16⟩ ⟨_, _, _, _, _, _, _, _, _, _, m1⟩ b2
  have HD := prS HS (Below.drew (Below.refl _ _))
  have B2 := Aside0.mk b2
  clear k1 m1 eW b2 HS
  go_region_held3 (fun w' => w'.cell? ⟨w.heap.size, 0, none⟩ = some (.bool false) ∧ w'.cell? ⟨w.heap.size, 1, none⟩ = some (.string ⟨#[]⟩) ∧ w'.cell? ⟨w.heap.size, 2, none⟩ = some (.slice RA rn rc) ∧ w'.cell? ⟨w.heap.size, 3, none⟩ = some (.bool false) ∧ w'.cell? ⟨w.heap.size, 4, none⟩ = some (.string ⟨#[]⟩) ∧ w'.cell? ⟨w.heap.size, 5, none⟩ = some (.bool false) ∧ w'.cell? ⟨w.heap.size, 6, none⟩ = some (.string ⟨#[]⟩) ∧ w'.cell? ⟨w.heap.size, 7, none⟩ = some (.bool false) ∧ w'.cell? ⟨w.heap.size, 8, none⟩ = some (.string ⟨#[]⟩) ∧ w'.cell? ⟨w.heap.size, 9, none⟩ = some (.bool false) ∧ w'.cell? ⟨w.heap.size, 10, none⟩ = some (.string ⟨#[]⟩) ∧ w'.cell? ⟨w.heap.size, 11, none⟩ = some (.bool false) ∧ w'.cell? ⟨w.heap.size, 12, none⟩ = some (.string ⟨#[]⟩) ∧ w'.cell? ⟨w.heap.size, 13, none⟩ = some (.bool false) ∧ w'.cell? ⟨w.heap.size, 14, none⟩ = some (.string ⟨#[]⟩) ∧ w'.cell? ⟨w.heap.size, 15, none⟩ = some (.slice A n c) ∧ w'.cell? ⟨w.heap.size, 16, none⟩ = some (.slice none 0 0) ∧ w.heap.size + 1 < w'.heap.size ∧ w'.cell? ⟨w.heap.size + 1, 0, none⟩ = some (gv (w.heap.size + 1) 0 w') ∧ w'.cell? ⟨w.heap.size + 1, 1, none⟩ = some (gv (w.heap.size + 1) 1 w') ∧ w'.cell? ⟨w.heap.size + 1, 2, none⟩ = some (gv (w.heap.size + 1) 2 w') ∧ w'.cell? ⟨w.heap.size + 1, 3, none⟩ = some (gv (w.heap.size + 1) 3 w') ∧ w'.cell? ⟨w.heap.size + 1, 4, none⟩ = some (gv (w.heap.size + 1) 4 w') ∧ w'.cell? ⟨w.heap.size + 1, 5, none⟩ = some (gv (w.heap.size + 1) 5 w') ∧ w'.cell? ⟨w.heap.size + 1, 6, none⟩ = some (gv (w.heap.size + 1) 6 w') ∧ w'.cell? ⟨w.heap.size + 1, 7, none⟩ = some (gv (w.heap.size + 1) 7 w') ∧ w'.cell? ⟨w.heap.size + 1, 8, none⟩ = some (gv (w.heap.size + 1) 8 w') ∧ w'.cell? ⟨w.heap.size + 1, 9, none⟩ = some (gv (w.heap.size + 1) 9 w') ∧ w'.frozen? ⟨w.heap.size + 1, 0, none⟩ = false ∧ w'.frozen? ⟨w.heap.size + 1, 1, none⟩ = false ∧ w'.frozen? ⟨w.heap.size + 1, 2, none⟩ = false ∧ w'.frozen? ⟨w.heap.size + 1, 3, none⟩ = false ∧ w'.frozen? ⟨w.heap.size + 1, 4, none⟩ = false ∧ w'.frozen? ⟨w.heap.size + 1, 5, none⟩ = false ∧ w'.frozen? ⟨w.heap.size + 1, 6, none⟩ = false ∧ w'.frozen? ⟨w.heap.size + 1, 7, none⟩ = false ∧ w'.frozen? ⟨w.heap.size + 1, 8, none⟩ = false ∧ w'.frozen? ⟨w.heap.size + 1, 9, none⟩ = false ∧ (∃ x0 x1 x2 x3 x4 x5 x6 x7 x8 x9, w'.heap[w.heap.size + 1]? = some (Obj.cells #[x0, x1, x2, x3, x4, x5, x6, x7, x8, x9] 51 (0, 0))) ∧ Below w.heap.size w w') (first | (with_reducible assumption) | (with_reducible exact prS (by with_reducible assumption) (by with_reducible assumption)) | (with_reducible exact prStore _ _ _ _ _ _ _ _ _ _ (by with_reducible assumption))) (first | (go_at_call 35; refine (zb _).mono ?_; rintro e w1 ⟨p, rfl, hp, d1⟩; have P1 := Aside0.mk hp; clear hp) | (go_at_call 36; refine (zs _ ?hz).mono ?_; (case hz => first | with_reducible assumption | exact below_then (Below.drew B2.out) B2.out.size d1 | exact below_then B2.out B2.out.size d1); rintro e w1 ⟨A', c', rfl, ho, hc', d1⟩; have R1 := Aside0.mk ho; clear ho) | (go_at_call 37; refine (lz _).mono ?_; rintro e w1 ⟨rfl, d1⟩))
  have hs : PrS A RA n c rn rc w w1 := by
    refine prS ?_ (by with_reducible assumption)
    refine prS ?_ (by with_reducible assumption)
    refine prS ?_ (by with_reducible assumption)
    refine prS ?_ (by with_reducible assumption)
    exact prS HD (by with_reducible assumption)
  have hP : IsBig w1 p 0 := by
    repeat (first | with_reducible exact P1.out | refine IsBig.below ?_ (by with_reducible assumption))
  have hR : BOwn w1 w.heap.size (.slice A' l.length c') (zsOf l) := by
    repeat (first | with_reducible exact R1.out | refine BOwn.below ?_ (by with_reducible assumption))
  have PK := Aside0.mk (@prKeep A RA n c rn rc w w1 (.pointer (some ⟨p, 0, none⟩)) (.slice A' l.length c') (.string ⟨#[]⟩) (.pointer none) (.string ⟨#[]⟩) (.pointer none) (.string ⟨#[]⟩) (.pointer none) (.slice A n c) (.slice none 0 0) (fun w' => IsBig w' p 0 ∧ BOwn w' w.heap.size (.slice A' l.length c') (zsOf l)) (fun w' cs j u hk hF => ⟨hF.1.put hk (by decide) j u, hF.2.put hk (by decide) (by decide) j u⟩) ⟨hP, hR⟩ hs)
  have PV := Aside0.mk (@prPut A RA n c rn rc w w1 (.pointer (some ⟨p, 0, none⟩)) (.slice A' l.length c') (.string ⟨#[]⟩) (.pointer none) (.string ⟨#[]⟩) (.pointer none) (.string ⟨#[]⟩) (.pointer none) (.slice A n c) (.slice none 0 0) hs)
  clear hs HD hP hR
  go_wp2_with fail
  exact bodyPost_ret (results_cell_row rfl _ _ (w.heap.size + 1) 51 (loR (.pointer (some ⟨p, 0, none⟩)) (.slice A' l.length c') A n c) (0, 0) _ rfl PV.out.1 Tryz.underlying51 rfl (by kernel_rfl)) rfl ⟨p, A', c', rfl, PK.out.1, ⟨_, PK.out.2⟩, hc', PV.out.2⟩
end Go.Proofs.YtfmndbmlpfgbnaaGreatDoor.Giv
/- Contracts by hand: a letter with its number; versions of PyPI with all their parts (ZZPyPIVersion). Printed by wip/tool/genpg.py. -/
namespace Go.Proofs.YtfmndbmlpfgbnaaGreatDoor.Giv
open Go.RowKit Go.Proofs.YtfmndbmlpfgbnaaGreatDoorW.PrintWords Go.Proofs.YtfmndbmlpfgbnaaGreatDoorW.PrintLast Go.Proofs.YtfmndbmlpfgbnaaGreatDoor.Pk Go.Proofs.YtfmndbmlpfgbnaaGreatDoor.Ord Go.Proofs.YtfmndbmlpfgbnaaGreatDoor.QN
set_option linter.unusedVariables false
set_option linter.unusedSimpArgs false

/-- A number that may be missing. -/
def NumO (w : World) (o : Option Addr) : Option Int → Prop
  | none => o = none
  | some z => ∃ p, o = some ⟨p, 0, none⟩ ∧ IsBig w p z
theorem NumO.below {w w' : World} {o : Option Addr} {z : Option Int} (h : NumO w o z) (d : Below w.heap.size w w') : NumO w' o z := by
  cases z with
  | none => exact h
  | some z =>
    obtain ⟨p, h1, h2⟩ := h
    exact ⟨p, h1, h2.below d⟩
theorem NumO.put {w : World} {o : Option Addr} {z : Option Int} (h : NumO w o z) {g t : Nat} {cells : Array Value} (hb : w.heap[g]? = some (Obj.cells cells t (0, 0))) (ht : t ≠ 78 ∧ t ≠ 92) (j : Nat) (u : Value) : NumO (w.setCell ⟨g, j, none⟩ u) o z := by
  cases z with
  | none => exact h
  | some z =>
    obtain ⟨p, h1, h2⟩ := h
    exact ⟨p, h1, h2.put hb ht j u⟩
/-- A letter's number. -/
def ltN (h n : Bool) (m : ByteArray) : Option Int := if h then some (zOf n m) else none
abbrev LtS (l : ByteArray) (n : Bool) (m : ByteArray) (w0 w1 : World) : Prop := w1.cell? ⟨w0.heap.size, 1, none⟩ = some (.string l) ∧ w1.cell? ⟨w0.heap.size, 2, none⟩ = some (.bool n) ∧ w1.cell? ⟨w0.heap.size, 3, none⟩ = some (.string m) ∧ w0.heap.size + 1 < w1.heap.size ∧ w1.cell? ⟨w0.heap.size + 1, 0, none⟩ = some (gv (w0.heap.size + 1) 0 w1) ∧ w1.cell? ⟨w0.heap.size + 1, 1, none⟩ = some (gv (w0.heap.size + 1) 1 w1) ∧ w1.frozen? ⟨w0.heap.size + 1, 0, none⟩ = false ∧ w1.frozen? ⟨w0.heap.size + 1, 1, none⟩ = false ∧ (∃ x0 x1, w1.heap[w0.heap.size + 1]? = some (Obj.cells #[x0, x1] 49 (0, 0))) ∧ Below w0.heap.size w0 w1
theorem ltMk {l : ByteArray} {n : Bool} {m : ByteArray} {w0 w1 : World} (h1 : w1.cell? ⟨w0.heap.size, 1, none⟩ = some (.string l)) (h2 : w1.cell? ⟨w0.heap.size, 2, none⟩ = some (.bool n)) (h3 : w1.cell? ⟨w0.heap.size, 3, none⟩ = some (.string m)) (hx : ∃ x0 x1, w1.heap[w0.heap.size + 1]? = some (Obj.cells #[x0, x1] 49 (0, 0))) (hb : Below w0.heap.size w0 w1) : LtS l n m w0 w1 := by
  obtain ⟨x0, x1, h⟩ := hx
  exact ⟨h1, h2, h3, blk_lt h, gv_of (blk_cell h 0), gv_of (blk_cell h 1), blk_frozen h 0, blk_frozen h 1, ⟨_, _, h⟩, hb⟩
theorem ltS {l : ByteArray} {n : Bool} {m : ByteArray} {w0 w1 w2 : World} (h : LtS l n m w0 w1) (d : Below w1.heap.size w1 w2) : LtS l n m w0 w2 := by
  obtain ⟨h1, h2, h3, _, _, _, _, _, ⟨x0, x1, h17⟩, h18⟩ := h
  exact ltMk (pw_cell_below d h1) (pw_cell_below d h2) (pw_cell_below d h3) ⟨_, _, (d.block _ (blk_lt h17)).trans h17⟩ (h18.trans (d.mono h18.size))
theorem ltStore {l : ByteArray} {n : Bool} {m : ByteArray} {w0 w1 : World} (v0 v1 : Value) (h : LtS l n m w0 w1) : LtS l n m w0 ((w1.setCell ⟨w0.heap.size + 1, 0, none⟩ v0).setCell ⟨w0.heap.size + 1, 1, none⟩ v1) := by
  obtain ⟨h1, h2, h3, _, _, _, _, _, ⟨x0, x1, h17⟩, h18⟩ := h
  have b : Below (w0.heap.size + 1) w1 ((w1.setCell ⟨w0.heap.size + 1, 0, none⟩ v0).setCell ⟨w0.heap.size + 1, 1, none⟩ v1) := ((Below.refl (w0.heap.size + 1) w1).setCell (p := ⟨w0.heap.size + 1, 0, none⟩) (Nat.le_refl _) v0).setCell (p := ⟨w0.heap.size + 1, 1, none⟩) (Nat.le_refl _) v1
  exact ltMk ((b.cell (Nat.lt_succ_self _)).trans h1) ((b.cell (Nat.lt_succ_self _)).trans h2) ((b.cell (Nat.lt_succ_self _)).trans h3) ⟨_, _, blk_put (cs := #[v0, x1]) (blk_put (cs := #[x0, x1]) h17 0 v0 rfl) 1 v1 rfl⟩ (h18.trans (b.mono (Nat.le_succ _)))
set_option maxRecDepth 100000 in
set_option maxHeartbeats 4000000 in
theorem letterG (h : Bool) (l : ByteArray) (n : Bool) (m : ByteArray) (hm : m.size ≤ 100000) (w : World) : Calls Tryz.prog 37 #[.agg #[.bool h, .string l, .bool n, .string m]] w fun e w' => ∃ o, e = .returned (.agg #[.string l, .pointer o]) ∧ NumO w' o (ltN h n m) ∧ Below w.heap.size w w' := by
  have b2 := below_alloc (below_alloc (Below.refl w.heap.size w) (Obj.cells #[.bool h, .string l, .bool n, .string m] 60)) (Obj.cells #[.string ⟨#[]⟩, .pointer none] 49)
  have k1 : ((w.alloc (Obj.cells #[.bool h, .string l, .bool n, .string m] 60)).alloc (Obj.cells #[.string ⟨#[]⟩, .pointer none] 49)).heap[w.heap.size]? = some (Obj.cells #[.bool h, .string l, .bool n, .string m] 60) := blk_alloc (blk_new w _) _
  have m1 : ((w.alloc (Obj.cells #[.bool h, .string l, .bool n, .string m] 60)).alloc (Obj.cells #[.string ⟨#[]⟩, .pointer none] 49)).heap[w.heap.size + 1]? = some (Obj.cells #[.string ⟨#[]⟩, .pointer none] 49) := by
    have := blk_new (w.alloc (Obj.cells #[.bool h, .string l, .bool n, .string m] 60)) (Obj.cells #[.string ⟨#[]⟩, .pointer none] 49)
    simpa using this
  have B2 := Aside0.mk b2
  have K1 := Aside0.mk k1
  have M1 := Aside0.mk m1
  have q0 := blk_cell k1 0
  have q1 := blk_cell k1 1
  have q2 := blk_cell k1 2
  have q3 := blk_cell k1 3
  have r0 := blk_cell m1 0
  have r1 := blk_cell m1 1
  have y0 := blk_frozen m1 0
  have y1 := blk_frozen m1 1
  have zb := Aside0.mk (fun w' => zzBig_calls n m w' hm)
  cases h with
  | false =>
    clear b2 k1 m1
    go_enter Tryz.func37, Tryz.ntmps37
    go_wp2_with fail
    have k9 : ((w.alloc (Obj.cells #[.bool false, .string l, .bool n, .string m] 60)).alloc (Obj.cells #[.string l, .pointer none] 49)).heap[w.heap.size + 1]? = some (Obj.cells #[.string l, .pointer none] 49) := by
      have := blk_new (w.alloc (Obj.cells #[.bool false, .string l, .bool n, .string m] 60)) (Obj.cells #[.string l, .pointer none] 49)
      simpa using this
    exact bodyPost_ret (results_cell_row rfl _ _ (w.heap.size + 1) 49 #[.string l, .pointer none] (0, 0) _ rfl k9 Tryz.underlying49 rfl (by kernel_rfl)) rfl ⟨none, rfl, rfl, below_alloc (below_alloc (Below.refl _ _) _) _⟩
  | true =>
    clear q0 q1 q2 q3 r0 r1 y0 y1
    go_enter Tryz.func37, Tryz.ntmps37
    have q0 := blk_cell k1 0
    go_wp2_with fail
    obtain ⟨W, eW⟩ : ∃ W, W = ((w.alloc (Obj.cells #[.bool true, .string l, .bool n, .string m] 60)).alloc (Obj.cells #[.string ⟨#[]⟩, .pointer none] 49)) := ⟨_, rfl⟩
    rw [← eW] at b2 k1 m1 ⊢
    have HS := ltMk (w0 := w) (w1 := W) (blk_cell k1 1) (blk_cell k1 2) (blk_cell k1 3) ⟨_, _, m1⟩ b2
    have HD := ltS HS (Below.drew (Below.refl _ _))
    clear q0 k1 m1 eW b2 HS B2 K1 M1
    go_region_held3 (fun w' => w'.cell? ⟨w.heap.size, 1, none⟩ = some (.string l) ∧ w'.cell? ⟨w.heap.size, 2, none⟩ = some (.bool n) ∧ w'.cell? ⟨w.heap.size, 3, none⟩ = some (.string m) ∧ w.heap.size + 1 < w'.heap.size ∧ w'.cell? ⟨w.heap.size + 1, 0, none⟩ = some (gv (w.heap.size + 1) 0 w') ∧ w'.cell? ⟨w.heap.size + 1, 1, none⟩ = some (gv (w.heap.size + 1) 1 w') ∧ w'.frozen? ⟨w.heap.size + 1, 0, none⟩ = false ∧ w'.frozen? ⟨w.heap.size + 1, 1, none⟩ = false ∧ (∃ x0 x1, w'.heap[w.heap.size + 1]? = some (Obj.cells #[x0, x1] 49 (0, 0))) ∧ Below w.heap.size w w') (first | (with_reducible assumption) | (with_reducible exact ltS (by with_reducible assumption) (by with_reducible assumption)) | (with_reducible exact ltStore _ _ (by with_reducible assumption))) (first | (go_at_call 35; (with_reducible refine (zb.out _).mono ?_); rintro e w1 ⟨q, rfl, hp, d1⟩; have P1 := Aside0.mk hp; clear hp))
    have hs : LtS l n m w w1 := ltS HD (by with_reducible assumption)
    obtain ⟨_, _, _, _, _, _, _, _, ⟨x0, x1, h17⟩, h18⟩ := hs
    have k0 := blk_put (cs := #[x0, x1]) h17 0 (.string l) rfl
    have k9 := blk_put (cs := #[.string l, x1]) k0 1 (.pointer (some ⟨q, 0, none⟩)) rfl
    have hN := (P1.out.put h17 (by decide) 0 (.string l)).put k0 (by decide) 1 (.pointer (some ⟨q, 0, none⟩))
    have hB := Aside0.mk ((h18.setCell (p := ⟨w.heap.size + 1, 0, none⟩) (Nat.le_succ _) (.string l)).setCell (p := ⟨w.heap.size + 1, 1, none⟩) (Nat.le_succ _) (.pointer (some ⟨q, 0, none⟩)))
    have K9 := Aside0.mk k9
    have HN := Aside0.mk hN
    clear HD k0 k9 hN h17 h18
    go_wp2_with fail
    exact bodyPost_ret (results_cell_row rfl _ _ (w.heap.size + 1) 49 #[.string l, .pointer (some ⟨q, 0, none⟩)] (0, 0) _ rfl K9.out Tryz.underlying49 rfl (by kernel_rfl)) rfl ⟨some ⟨q, 0, none⟩, rfl, ⟨q, rfl, HN.out⟩, hB.out⟩
set_option maxRecDepth 100000 in
theorem implLetterG (h : Bool) (l : ByteArray) (n : Bool) (m : ByteArray) (w : World) : Calls Tryz.prog 30 #[.agg #[.bool h, .string l, .bool n, .string m]] w fun e w' => e = .returned (.agg #[.bool h, .string l, .bool n, .string m]) ∧ Below w.heap.size w w' := by
  have b1 := below_alloc (below_alloc (Below.refl w.heap.size w) (Obj.cells #[.bool h, .string l, .bool n, .string m] 26)) (Obj.cells #[.bool h, .string l, .bool n, .string m] 60)
  have B1 := Aside0.mk b1
  clear b1
  go_enter Tryz.func30, Tryz.ntmps30
  go_wp2_with fail
  exact bodyPost_ret (results_cell_row rfl _ _ (w.heap.size + 1) 60 #[.bool h, .string l, .bool n, .string m] (0, 0) _ rfl (by have := blk_new (w.alloc (Obj.cells #[.bool h, .string l, .bool n, .string m] 26)) (Obj.cells #[.bool h, .string l, .bool n, .string m] 60); simpa using this) Tryz.underlying60 rfl (by kernel_rfl)) rfl ⟨rfl, B1.out⟩

end Go.Proofs.YtfmndbmlpfgbnaaGreatDoor.Giv
/- Contract by hand: versions of PyPI with all their parts (ZZPyPIVersion). Printed by wip/tool/genpg.py. -/
namespace Go.Proofs.YtfmndbmlpfgbnaaGreatDoor.Giv
open Go.RowKit Go.Proofs.YtfmndbmlpfgbnaaGreatDoorW.PrintWords Go.Proofs.YtfmndbmlpfgbnaaGreatDoorW.PrintLast Go.Proofs.YtfmndbmlpfgbnaaGreatDoor.Pk Go.Proofs.YtfmndbmlpfgbnaaGreatDoor.Ord Go.Proofs.YtfmndbmlpfgbnaaGreatDoor.QN
set_option linter.unusedVariables false
set_option linter.unusedSimpArgs false

/-- A version of PyPI by its parts: what its cells hold. -/
structure Py where
  e0 : Bool
  e1 : ByteArray
  RA : Option Addr
  rn : Nat
  rc : Nat
  a0 : Bool
  a1 : ByteArray
  a2 : Bool
  a3 : ByteArray
  b0 : Bool
  b1 : ByteArray
  b2 : Bool
  b3 : ByteArray
  d0 : Bool
  d1 : ByteArray
  d2 : Bool
  d3 : ByteArray
  LA : Option Addr
  ln : Nat
  lc : Nat
  GA : Option Addr
  gn : Nat
  gc : Nat
/-- The cells. -/
abbrev pyA (p : Py) : Array Value := #[.bool p.e0, .string p.e1, .slice p.RA p.rn p.rc, .bool p.a0, .string p.a1, .bool p.a2, .string p.a3, .bool p.b0, .string p.b1, .bool p.b2, .string p.b3, .bool p.d0, .string p.d1, .bool p.d2, .string p.d3, .slice p.LA p.ln p.lc, .slice p.GA p.gn p.gc]
/-- The texts of its numbers are not huge. -/
structure Py.Small (p : Py) : Prop where
  e : p.e1.size ≤ 100000
  a : p.a3.size ≤ 100000
  b : p.b3.size ≤ 100000
  d : p.d3.size ≤ 100000
/-- What the package's own form holds. -/
abbrev loG (p : Py) (q : Nat) (A : Option Addr) (n c : Nat) (oa ob od : Option Addr) : Array Value := #[.pointer (some ⟨q, 0, none⟩), .slice A n c, .string p.a1, .pointer oa, .string p.b1, .pointer ob, .string p.d1, .pointer od, .slice p.LA p.ln p.lc, .slice p.GA p.gn p.gc]
abbrev PrG (p : Py) (w0 w1 : World) : Prop := w1.cell? ⟨w0.heap.size, 0, none⟩ = some (.bool p.e0) ∧ w1.cell? ⟨w0.heap.size, 1, none⟩ = some (.string p.e1) ∧ w1.cell? ⟨w0.heap.size, 2, none⟩ = some (.slice p.RA p.rn p.rc) ∧ w1.cell? ⟨w0.heap.size, 3, none⟩ = some (.bool p.a0) ∧ w1.cell? ⟨w0.heap.size, 4, none⟩ = some (.string p.a1) ∧ w1.cell? ⟨w0.heap.size, 5, none⟩ = some (.bool p.a2) ∧ w1.cell? ⟨w0.heap.size, 6, none⟩ = some (.string p.a3) ∧ w1.cell? ⟨w0.heap.size, 7, none⟩ = some (.bool p.b0) ∧ w1.cell? ⟨w0.heap.size, 8, none⟩ = some (.string p.b1) ∧ w1.cell? ⟨w0.heap.size, 9, none⟩ = some (.bool p.b2) ∧ w1.cell? ⟨w0.heap.size, 10, none⟩ = some (.string p.b3) ∧ w1.cell? ⟨w0.heap.size, 11, none⟩ = some (.bool p.d0) ∧ w1.cell? ⟨w0.heap.size, 12, none⟩ = some (.string p.d1) ∧ w1.cell? ⟨w0.heap.size, 13, none⟩ = some (.bool p.d2) ∧ w1.cell? ⟨w0.heap.size, 14, none⟩ = some (.string p.d3) ∧ w1.cell? ⟨w0.heap.size, 15, none⟩ = some (.slice p.LA p.ln p.lc) ∧ w1.cell? ⟨w0.heap.size, 16, none⟩ = some (.slice p.GA p.gn p.gc) ∧ w0.heap.size + 1 < w1.heap.size ∧ w1.cell? ⟨w0.heap.size + 1, 0, none⟩ = some (gv (w0.heap.size + 1) 0 w1) ∧ w1.cell? ⟨w0.heap.size + 1, 1, none⟩ = some (gv (w0.heap.size + 1) 1 w1) ∧ w1.cell? ⟨w0.heap.size + 1, 2, none⟩ = some (gv (w0.heap.size + 1) 2 w1) ∧ w1.cell? ⟨w0.heap.size + 1, 3, none⟩ = some (gv (w0.heap.size + 1) 3 w1) ∧ w1.cell? ⟨w0.heap.size + 1, 4, none⟩ = some (gv (w0.heap.size + 1) 4 w1) ∧ w1.cell? ⟨w0.heap.size + 1, 5, none⟩ = some (gv (w0.heap.size + 1) 5 w1) ∧ w1.cell? ⟨w0.heap.size + 1, 6, none⟩ = some (gv (w0.heap.size + 1) 6 w1) ∧ w1.cell? ⟨w0.heap.size + 1, 7, none⟩ = some (gv (w0.heap.size + 1) 7 w1) ∧ w1.cell? ⟨w0.heap.size + 1, 8, none⟩ = some (gv (w0.heap.size + 1) 8 w1) ∧ w1.cell? ⟨w0.heap.size + 1, 9, none⟩ = some (gv (w0.heap.size + 1) 9 w1) ∧ w1.frozen? ⟨w0.heap.size + 1, 0, none⟩ = false ∧ w1.frozen? ⟨w0.heap.size + 1, 1, none⟩ = false ∧ w1.frozen? ⟨w0.heap.size + 1, 2, none⟩ = false ∧ w1.frozen? ⟨w0.heap.size + 1, 3, none⟩ = false ∧ w1.frozen? ⟨w0.heap.size + 1, 4, none⟩ = false ∧ w1.frozen? ⟨w0.heap.size + 1, 5, none⟩ = false ∧ w1.frozen? ⟨w0.heap.size + 1, 6, none⟩ = false ∧ w1.frozen? ⟨w0.heap.size + 1, 7, none⟩ = false ∧ w1.frozen? ⟨w0.heap.size + 1, 8, none⟩ = false ∧ w1.frozen? ⟨w0.heap.size + 1, 9, none⟩ = false ∧ (∃ x0 x1 x2 x3 x4 x5 x6 x7 x8 x9, w1.heap[w0.heap.size + 1]? = some (Obj.cells #[x0, x1, x2, x3, x4, x5, x6, x7, x8, x9] 51 (0, 0))) ∧ Below w0.heap.size w0 w1
theorem pgMk {p : Py} {w0 w1 : World} (h : w1.cell? ⟨w0.heap.size, 0, none⟩ = some (.bool p.e0) ∧ w1.cell? ⟨w0.heap.size, 1, none⟩ = some (.string p.e1) ∧ w1.cell? ⟨w0.heap.size, 2, none⟩ = some (.slice p.RA p.rn p.rc) ∧ w1.cell? ⟨w0.heap.size, 3, none⟩ = some (.bool p.a0) ∧ w1.cell? ⟨w0.heap.size, 4, none⟩ = some (.string p.a1) ∧ w1.cell? ⟨w0.heap.size, 5, none⟩ = some (.bool p.a2) ∧ w1.cell? ⟨w0.heap.size, 6, none⟩ = some (.string p.a3) ∧ w1.cell? ⟨w0.heap.size, 7, none⟩ = some (.bool p.b0) ∧ w1.cell? ⟨w0.heap.size, 8, none⟩ = some (.string p.b1) ∧ w1.cell? ⟨w0.heap.size, 9, none⟩ = some (.bool p.b2) ∧ w1.cell? ⟨w0.heap.size, 10, none⟩ = some (.string p.b3) ∧ w1.cell? ⟨w0.heap.size, 11, none⟩ = some (.bool p.d0) ∧ w1.cell? ⟨w0.heap.size, 12, none⟩ = some (.string p.d1) ∧ w1.cell? ⟨w0.heap.size, 13, none⟩ = some (.bool p.d2) ∧ w1.cell? ⟨w0.heap.size, 14, none⟩ = some (.string p.d3) ∧ w1.cell? ⟨w0.heap.size, 15, none⟩ = some (.slice p.LA p.ln p.lc) ∧ w1.cell? ⟨w0.heap.size, 16, none⟩ = some (.slice p.GA p.gn p.gc)) (hx : ∃ x0 x1 x2 x3 x4 x5 x6 x7 x8 x9, w1.heap[w0.heap.size + 1]? = some (Obj.cells #[x0, x1, x2, x3, x4, x5, x6, x7, x8, x9] 51 (0, 0))) (hb : Below w0.heap.size w0 w1) : PrG p w0 w1 := by
  obtain ⟨h0, h1, h2, h3, h4, h5, h6, h7, h8, h9, h10, h11, h12, h13, h14, h15, h16⟩ := h
  obtain ⟨x0, x1, x2, x3, x4, x5, x6, x7, x8, x9, h17⟩ := hx
  exact ⟨h0, h1, h2, h3, h4, h5, h6, h7, h8, h9, h10, h11, h12, h13, h14, h15, h16, blk_lt h17, gv_of (blk_cell h17 0), gv_of (blk_cell h17 1), gv_of (blk_cell h17 2), gv_of (blk_cell h17 3), gv_of (blk_cell h17 4), gv_of (blk_cell h17 5), gv_of (blk_cell h17 6), gv_of (blk_cell h17 7), gv_of (blk_cell h17 8), gv_of (blk_cell h17 9), blk_frozen h17 0, blk_frozen h17 1, blk_frozen h17 2, blk_frozen h17 3, blk_frozen h17 4, blk_frozen h17 5, blk_frozen h17 6, blk_frozen h17 7, blk_frozen h17 8, blk_frozen h17 9, ⟨_, _, _, _, _, _, _, _, _, _, h17⟩, hb⟩
theorem pgS {p : Py} {w0 w1 w2 : World} (h : PrG p w0 w1) (d : Below w1.heap.size w1 w2) : PrG p w0 w2 := by
  obtain ⟨h0, h1, h2, h3, h4, h5, h6, h7, h8, h9, h10, h11, h12, h13, h14, h15, h16, _, _, _, _, _, _, _, _, _, _, _, _, _, _, _, _, _, _, _, _, _, ⟨x0, x1, x2, x3, x4, x5, x6, x7, x8, x9, h17⟩, h18⟩ := h
  exact pgMk ⟨pw_cell_below d h0, pw_cell_below d h1, pw_cell_below d h2, pw_cell_below d h3, pw_cell_below d h4, pw_cell_below d h5, pw_cell_below d h6, pw_cell_below d h7, pw_cell_below d h8, pw_cell_below d h9, pw_cell_below d h10, pw_cell_below d h11, pw_cell_below d h12, pw_cell_below d h13, pw_cell_below d h14, pw_cell_below d h15, pw_cell_below d h16⟩ ⟨x0, x1, x2, x3, x4, x5, x6, x7, x8, x9, (d.block _ (blk_lt h17)).trans h17⟩ (h18.trans (d.mono h18.size))
theorem pgStore {p : Py} {w0 w1 : World} (v0 v1 v2 v3 v4 v5 v6 v7 v8 v9 : Value) (h : PrG p w0 w1) : PrG p w0 ((((((((((w1.setCell ⟨w0.heap.size + 1, 0, none⟩ v0).setCell ⟨w0.heap.size + 1, 1, none⟩ v1).setCell ⟨w0.heap.size + 1, 2, none⟩ v2).setCell ⟨w0.heap.size + 1, 3, none⟩ v3).setCell ⟨w0.heap.size + 1, 4, none⟩ v4).setCell ⟨w0.heap.size + 1, 5, none⟩ v5).setCell ⟨w0.heap.size + 1, 6, none⟩ v6).setCell ⟨w0.heap.size + 1, 7, none⟩ v7).setCell ⟨w0.heap.size + 1, 8, none⟩ v8).setCell ⟨w0.heap.size + 1, 9, none⟩ v9) := by
  obtain ⟨h0, h1, h2, h3, h4, h5, h6, h7, h8, h9, h10, h11, h12, h13, h14, h15, h16, _, _, _, _, _, _, _, _, _, _, _, _, _, _, _, _, _, _, _, _, _, ⟨x0, x1, x2, x3, x4, x5, x6, x7, x8, x9, h17⟩, h18⟩ := h

  have b : Below (w0.heap.size + 1) w1 ((((((((((w1.setCell ⟨w0.heap.size + 1, 0, none⟩ v0).setCell ⟨w0.heap.size + 1, 1, none⟩ v1).setCell ⟨w0.heap.size + 1, 2, none⟩ v2).setCell ⟨w0.heap.size + 1, 3, none⟩ v3).setCell ⟨w0.heap.size + 1, 4, none⟩ v4).setCell ⟨w0.heap.size + 1, 5, none⟩ v5).setCell ⟨w0.heap.size + 1, 6, none⟩ v6).setCell ⟨w0.heap.size + 1, 7, none⟩ v7).setCell ⟨w0.heap.size + 1, 8, none⟩ v8).setCell ⟨w0.heap.size + 1, 9, none⟩ v9) := (((((((((((Below.refl (w0.heap.size + 1) w1).setCell (p := ⟨w0.heap.size + 1, 0, none⟩) (Nat.le_refl _) v0).setCell (p := ⟨w0.heap.size + 1, 1, none⟩) (Nat.le_refl _) v1).setCell (p := ⟨w0.heap.size + 1, 2, none⟩) (Nat.le_refl _) v2).setCell (p := ⟨w0.heap.size + 1, 3, none⟩) (Nat.le_refl _) v3).setCell (p := ⟨w0.heap.size + 1, 4, none⟩) (Nat.le_refl _) v4).setCell (p := ⟨w0.heap.size + 1, 5, none⟩) (Nat.le_refl _) v5).setCell (p := ⟨w0.heap.size + 1, 6, none⟩) (Nat.le_refl _) v6).setCell (p := ⟨w0.heap.size + 1, 7, none⟩) (Nat.le_refl _) v7).setCell (p := ⟨w0.heap.size + 1, 8, none⟩) (Nat.le_refl _) v8).setCell (p := ⟨w0.heap.size + 1, 9, none⟩) (Nat.le_refl _) v9)
  have b0 : Below w0.heap.size w0 ((((((((((w1.setCell ⟨w0.heap.size + 1, 0, none⟩ v0).setCell ⟨w0.heap.size + 1, 1, none⟩ v1).setCell ⟨w0.heap.size + 1, 2, none⟩ v2).setCell ⟨w0.heap.size + 1, 3, none⟩ v3).setCell ⟨w0.heap.size + 1, 4, none⟩ v4).setCell ⟨w0.heap.size + 1, 5, none⟩ v5).setCell ⟨w0.heap.size + 1, 6, none⟩ v6).setCell ⟨w0.heap.size + 1, 7, none⟩ v7).setCell ⟨w0.heap.size + 1, 8, none⟩ v8).setCell ⟨w0.heap.size + 1, 9, none⟩ v9) := h18.trans (b.mono (Nat.le_succ _))
  exact pgMk ⟨(b.cell (Nat.lt_succ_self _)).trans h0, (b.cell (Nat.lt_succ_self _)).trans h1, (b.cell (Nat.lt_succ_self _)).trans h2, (b.cell (Nat.lt_succ_self _)).trans h3, (b.cell (Nat.lt_succ_self _)).trans h4, (b.cell (Nat.lt_succ_self _)).trans h5, (b.cell (Nat.lt_succ_self _)).trans h6, (b.cell (Nat.lt_succ_self _)).trans h7, (b.cell (Nat.lt_succ_self _)).trans h8, (b.cell (Nat.lt_succ_self _)).trans h9, (b.cell (Nat.lt_succ_self _)).trans h10, (b.cell (Nat.lt_succ_self _)).trans h11, (b.cell (Nat.lt_succ_self _)).trans h12, (b.cell (Nat.lt_succ_self _)).trans h13, (b.cell (Nat.lt_succ_self _)).trans h14, (b.cell (Nat.lt_succ_self _)).trans h15, (b.cell (Nat.lt_succ_self _)).trans h16⟩ ⟨_, _, _, _, _, _, _, _, _, _, (blk_put (cs := #[v0, v1, v2, v3, v4, v5, v6, v7, v8, x9]) (blk_put (cs := #[v0, v1, v2, v3, v4, v5, v6, v7, x8, x9]) (blk_put (cs := #[v0, v1, v2, v3, v4, v5, v6, x7, x8, x9]) (blk_put (cs := #[v0, v1, v2, v3, v4, v5, x6, x7, x8, x9]) (blk_put (cs := #[v0, v1, v2, v3, v4, x5, x6, x7, x8, x9]) (blk_put (cs := #[v0, v1, v2, v3, x4, x5, x6, x7, x8, x9]) (blk_put (cs := #[v0, v1, v2, x3, x4, x5, x6, x7, x8, x9]) (blk_put (cs := #[v0, v1, x2, x3, x4, x5, x6, x7, x8, x9]) (blk_put (cs := #[v0, x1, x2, x3, x4, x5, x6, x7, x8, x9]) (blk_put (cs := #[x0, x1, x2, x3, x4, x5, x6, x7, x8, x9]) h17 0 v0 rfl) 1 v1 rfl) 2 v2 rfl) 3 v3 rfl) 4 v4 rfl) 5 v5 rfl) 6 v6 rfl) 7 v7 rfl) 8 v8 rfl) 9 v9 rfl)⟩ b0
theorem pgPut {p : Py} {w0 w1 : World} (v0 v1 v2 v3 v4 v5 v6 v7 v8 v9 : Value) (h : PrG p w0 w1) : ((((((((((w1.setCell ⟨w0.heap.size + 1, 0, none⟩ v0).setCell ⟨w0.heap.size + 1, 1, none⟩ v1).setCell ⟨w0.heap.size + 1, 2, none⟩ v2).setCell ⟨w0.heap.size + 1, 3, none⟩ v3).setCell ⟨w0.heap.size + 1, 4, none⟩ v4).setCell ⟨w0.heap.size + 1, 5, none⟩ v5).setCell ⟨w0.heap.size + 1, 6, none⟩ v6).setCell ⟨w0.heap.size + 1, 7, none⟩ v7).setCell ⟨w0.heap.size + 1, 8, none⟩ v8).setCell ⟨w0.heap.size + 1, 9, none⟩ v9).heap[w0.heap.size + 1]? = some (Obj.cells #[v0, v1, v2, v3, v4, v5, v6, v7, v8, v9] 51 (0, 0)) ∧ Below w0.heap.size w0 ((((((((((w1.setCell ⟨w0.heap.size + 1, 0, none⟩ v0).setCell ⟨w0.heap.size + 1, 1, none⟩ v1).setCell ⟨w0.heap.size + 1, 2, none⟩ v2).setCell ⟨w0.heap.size + 1, 3, none⟩ v3).setCell ⟨w0.heap.size + 1, 4, none⟩ v4).setCell ⟨w0.heap.size + 1, 5, none⟩ v5).setCell ⟨w0.heap.size + 1, 6, none⟩ v6).setCell ⟨w0.heap.size + 1, 7, none⟩ v7).setCell ⟨w0.heap.size + 1, 8, none⟩ v8).setCell ⟨w0.heap.size + 1, 9, none⟩ v9) := by
  obtain ⟨h0, h1, h2, h3, h4, h5, h6, h7, h8, h9, h10, h11, h12, h13, h14, h15, h16, _, _, _, _, _, _, _, _, _, _, _, _, _, _, _, _, _, _, _, _, _, ⟨x0, x1, x2, x3, x4, x5, x6, x7, x8, x9, h17⟩, h18⟩ := h
  have k := pgStore v0 v1 v2 v3 v4 v5 v6 v7 v8 v9 (h := ⟨h0, h1, h2, h3, h4, h5, h6, h7, h8, h9, h10, h11, h12, h13, h14, h15, h16, blk_lt h17, gv_of (blk_cell h17 0), gv_of (blk_cell h17 1), gv_of (blk_cell h17 2), gv_of (blk_cell h17 3), gv_of (blk_cell h17 4), gv_of (blk_cell h17 5), gv_of (blk_cell h17 6), gv_of (blk_cell h17 7), gv_of (blk_cell h17 8), gv_of (blk_cell h17 9), blk_frozen h17 0, blk_frozen h17 1, blk_frozen h17 2, blk_frozen h17 3, blk_frozen h17 4, blk_frozen h17 5, blk_frozen h17 6, blk_frozen h17 7, blk_frozen h17 8, blk_frozen h17 9, ⟨_, _, _, _, _, _, _, _, _, _, h17⟩, h18⟩)
  exact ⟨(blk_put (cs := #[v0, v1, v2, v3, v4, v5, v6, v7, v8, x9]) (blk_put (cs := #[v0, v1, v2, v3, v4, v5, v6, v7, x8, x9]) (blk_put (cs := #[v0, v1, v2, v3, v4, v5, v6, x7, x8, x9]) (blk_put (cs := #[v0, v1, v2, v3, v4, v5, x6, x7, x8, x9]) (blk_put (cs := #[v0, v1, v2, v3, v4, x5, x6, x7, x8, x9]) (blk_put (cs := #[v0, v1, v2, v3, x4, x5, x6, x7, x8, x9]) (blk_put (cs := #[v0, v1, v2, x3, x4, x5, x6, x7, x8, x9]) (blk_put (cs := #[v0, v1, x2, x3, x4, x5, x6, x7, x8, x9]) (blk_put (cs := #[v0, x1, x2, x3, x4, x5, x6, x7, x8, x9]) (blk_put (cs := #[x0, x1, x2, x3, x4, x5, x6, x7, x8, x9]) h17 0 v0 rfl) 1 v1 rfl) 2 v2 rfl) 3 v3 rfl) 4 v4 rfl) 5 v5 rfl) 6 v6 rfl) 7 v7 rfl) 8 v8 rfl) 9 v9 rfl), k.2.2.2.2.2.2.2.2.2.2.2.2.2.2.2.2.2.2.2.2.2.2.2.2.2.2.2.2.2.2.2.2.2.2.2.2.2.2.2⟩
theorem pgKeep {p : Py} {w0 w1 : World} (v0 v1 v2 v3 v4 v5 v6 v7 v8 v9 : Value) (F : World → Prop) (hF : ∀ (w : World) (cs : Array Value) (j : Nat) (u : Value), w.heap[w0.heap.size + 1]? = some (Obj.cells cs 51 (0, 0)) → F w → F (w.setCell ⟨w0.heap.size + 1, j, none⟩ u)) (h0 : F w1) (h : PrG p w0 w1) : F ((((((((((w1.setCell ⟨w0.heap.size + 1, 0, none⟩ v0).setCell ⟨w0.heap.size + 1, 1, none⟩ v1).setCell ⟨w0.heap.size + 1, 2, none⟩ v2).setCell ⟨w0.heap.size + 1, 3, none⟩ v3).setCell ⟨w0.heap.size + 1, 4, none⟩ v4).setCell ⟨w0.heap.size + 1, 5, none⟩ v5).setCell ⟨w0.heap.size + 1, 6, none⟩ v6).setCell ⟨w0.heap.size + 1, 7, none⟩ v7).setCell ⟨w0.heap.size + 1, 8, none⟩ v8).setCell ⟨w0.heap.size + 1, 9, none⟩ v9) := by
  obtain ⟨_, _, _, _, _, _, _, _, _, _, _, _, _, _, _, _, _, _, _, _, _, _, _, _, _, _, _, _, _, _, _, _, _, _, _, _, _, _, ⟨x0, x1, x2, x3, x4, x5, x6, x7, x8, x9, h17⟩, _⟩ := h
  have f0 := hF _ _ 0 v0 h17 h0
  have k0 := blk_put (cs := #[x0, x1, x2, x3, x4, x5, x6, x7, x8, x9]) h17 0 v0 rfl
  have f1 := hF _ _ 1 v1 k0 f0
  have k1 := blk_put (cs := #[v0, x1, x2, x3, x4, x5, x6, x7, x8, x9]) k0 1 v1 rfl
  have f2 := hF _ _ 2 v2 k1 f1
  have k2 := blk_put (cs := #[v0, v1, x2, x3, x4, x5, x6, x7, x8, x9]) k1 2 v2 rfl
  have f3 := hF _ _ 3 v3 k2 f2
  have k3 := blk_put (cs := #[v0, v1, v2, x3, x4, x5, x6, x7, x8, x9]) k2 3 v3 rfl
  have f4 := hF _ _ 4 v4 k3 f3
  have k4 := blk_put (cs := #[v0, v1, v2, v3, x4, x5, x6, x7, x8, x9]) k3 4 v4 rfl
  have f5 := hF _ _ 5 v5 k4 f4
  have k5 := blk_put (cs := #[v0, v1, v2, v3, v4, x5, x6, x7, x8, x9]) k4 5 v5 rfl
  have f6 := hF _ _ 6 v6 k5 f5
  have k6 := blk_put (cs := #[v0, v1, v2, v3, v4, v5, x6, x7, x8, x9]) k5 6 v6 rfl
  have f7 := hF _ _ 7 v7 k6 f6
  have k7 := blk_put (cs := #[v0, v1, v2, v3, v4, v5, v6, x7, x8, x9]) k6 7 v7 rfl
  have f8 := hF _ _ 8 v8 k7 f7
  have k8 := blk_put (cs := #[v0, v1, v2, v3, v4, v5, v6, v7, x8, x9]) k7 8 v8 rfl
  have f9 := hF _ _ 9 v9 k8 f8
  exact f9
set_option maxRecDepth 100000 in
set_option maxHeartbeats 40000000 in
theorem pyG_calls (p : Py) (l : List S56) (w : World) (hp : p.Small) (hrn : p.rn = l.length) (hr : Kd.C k56 w p.RA l.length l) (hl : l.length ≤ 100000) (hs : ∀ x ∈ l, x.f1.size ≤ 100000) :
    Calls Tryz.prog 28 #[.agg #[.bool p.e0, .string p.e1, .slice p.RA p.rn p.rc, .bool p.a0, .string p.a1, .bool p.a2, .string p.a3, .bool p.b0, .string p.b1, .bool p.b2, .string p.b3, .bool p.d0, .string p.d1, .bool p.d2, .string p.d3, .slice p.LA p.ln p.lc, .slice p.GA p.gn p.gc]] w fun e w' => ∃ (q : Nat) (A' : Option Addr) (c' : Nat) (oa ob od : Option Addr), e = .returned (.agg (loG p q A' l.length c' oa ob od)) ∧ IsBig w' q (zOf p.e0 p.e1) ∧ (∃ bs0, BOwn w' bs0 (.slice A' l.length c') (zsOf l)) ∧ NumO w' oa (ltN p.a0 p.a2 p.a3) ∧ NumO w' ob (ltN p.b0 p.b2 p.b3) ∧ NumO w' od (ltN p.d0 p.d2 p.d3) ∧ l.length ≤ c' ∧ Below w.heap.size w w' := by
  have HR := Aside0.mk hr
  clear hr
  have b2 := below_alloc (below_alloc (Below.refl w.heap.size w) (Obj.cells #[.bool p.e0, .string p.e1, .slice p.RA p.rn p.rc, .bool p.a0, .string p.a1, .bool p.a2, .string p.a3, .bool p.b0, .string p.b1, .bool p.b2, .string p.b3, .bool p.d0, .string p.d1, .bool p.d2, .string p.d3, .slice p.LA p.ln p.lc, .slice p.GA p.gn p.gc] 63)) (Obj.cells #[.pointer none, .slice none 0 0, .string ⟨#[]⟩, .pointer none, .string ⟨#[]⟩, .pointer none, .string ⟨#[]⟩, .pointer none, .slice none 0 0, .slice none 0 0] 51)
  have k1 : ((w.alloc (Obj.cells #[.bool p.e0, .string p.e1, .slice p.RA p.rn p.rc, .bool p.a0, .string p.a1, .bool p.a2, .string p.a3, .bool p.b0, .string p.b1, .bool p.b2, .string p.b3, .bool p.d0, .string p.d1, .bool p.d2, .string p.d3, .slice p.LA p.ln p.lc, .slice p.GA p.gn p.gc] 63)).alloc (Obj.cells #[.pointer none, .slice none 0 0, .string ⟨#[]⟩, .pointer none, .string ⟨#[]⟩, .pointer none, .string ⟨#[]⟩, .pointer none, .slice none 0 0, .slice none 0 0] 51)).heap[w.heap.size]? = some (Obj.cells #[.bool p.e0, .string p.e1, .slice p.RA p.rn p.rc, .bool p.a0, .string p.a1, .bool p.a2, .string p.a3, .bool p.b0, .string p.b1, .bool p.b2, .string p.b3, .bool p.d0, .string p.d1, .bool p.d2, .string p.d3, .slice p.LA p.ln p.lc, .slice p.GA p.gn p.gc] 63) := blk_alloc (blk_new w _) _
  have m1 : ((w.alloc (Obj.cells #[.bool p.e0, .string p.e1, .slice p.RA p.rn p.rc, .bool p.a0, .string p.a1, .bool p.a2, .string p.a3, .bool p.b0, .string p.b1, .bool p.b2, .string p.b3, .bool p.d0, .string p.d1, .bool p.d2, .string p.d3, .slice p.LA p.ln p.lc, .slice p.GA p.gn p.gc] 63)).alloc (Obj.cells #[.pointer none, .slice none 0 0, .string ⟨#[]⟩, .pointer none, .string ⟨#[]⟩, .pointer none, .string ⟨#[]⟩, .pointer none, .slice none 0 0, .slice none 0 0] 51)).heap[w.heap.size + 1]? = some (Obj.cells #[.pointer none, .slice none 0 0, .string ⟨#[]⟩, .pointer none, .string ⟨#[]⟩, .pointer none, .string ⟨#[]⟩, .pointer none, .slice none 0 0, .slice none 0 0] 51) := by
    have := blk_new (w.alloc (Obj.cells #[.bool p.e0, .string p.e1, .slice p.RA p.rn p.rc, .bool p.a0, .string p.a1, .bool p.a2, .string p.a3, .bool p.b0, .string p.b1, .bool p.b2, .string p.b3, .bool p.d0, .string p.d1, .bool p.d2, .string p.d3, .slice p.LA p.ln p.lc, .slice p.GA p.gn p.gc] 63)) (Obj.cells #[.pointer none, .slice none 0 0, .string ⟨#[]⟩, .pointer none, .string ⟨#[]⟩, .pointer none, .string ⟨#[]⟩, .pointer none, .slice none 0 0, .slice none 0 0] 51)
    simpa using this
  have zb := Aside0.mk (fun w' : World => zzBig_calls p.e0 p.e1 w' hp.e)
  have la := Aside0.mk (fun w' : World => letterG p.a0 p.a1 p.a2 p.a3 hp.a w')
  have lb := Aside0.mk (fun w' : World => letterG p.b0 p.b1 p.b2 p.b3 hp.b w')
  have ld := Aside0.mk (fun w' : World => letterG p.d0 p.d1 p.d2 p.d3 hp.d w')
  have zs : ∀ w' : World, Below w.heap.size w w' → Calls Tryz.prog 36 #[.slice p.RA p.rn p.rc] w' fun e w'' => ∃ (A' : Option Addr) (c' : Nat), e = .returned (.slice A' l.length c') ∧ BOwn w'' w.heap.size (.slice A' l.length c') (zsOf l) ∧ l.length ≤ c' ∧ Below w'.heap.size w' w'' := fun w' d => by
    rw [hrn]
    refine (zzBigs_calls p.RA p.rc l w' (Kd.C_below HR.out d) hl hs).mono ?_
    rintro e w'' ⟨v, rfl, ho, d2⟩
    obtain ⟨A', c', rfl, hc, hb⟩ := ho.slice
    rw [zsOf_len] at hc ho
    exact ⟨A', c', by rw [zsOf_len], ho.lower d.size, hc, d2⟩
  clear hrn hp
  go_enter Tryz.func28, Tryz.ntmps28
  go_wp2_with fail
  obtain ⟨W, eW⟩ : ∃ W, W = ((w.alloc (Obj.cells #[.bool p.e0, .string p.e1, .slice p.RA p.rn p.rc, .bool p.a0, .string p.a1, .bool p.a2, .string p.a3, .bool p.b0, .string p.b1, .bool p.b2, .string p.b3, .bool p.d0, .string p.d1, .bool p.d2, .string p.d3, .slice p.LA p.ln p.lc, .slice p.GA p.gn p.gc] 63)).alloc (Obj.cells #[.pointer none, .slice none 0 0, .string ⟨#[]⟩, .pointer none, .string ⟨#[]⟩, .pointer none, .string ⟨#[]⟩, .pointer none, .slice none 0 0, .slice none 0 0] 51)) := ⟨_, rfl⟩
  rw [← eW] at b2 k1 m1 ⊢
  have HS := pgMk (p := p) (w0 := w) (w1 := W) ⟨blk_cell k1 0, blk_cell k1 1, blk_cell k1 2, blk_cell k1 3, blk_cell k1 4, blk_cell k1 5, blk_cell k1 6, blk_cell k1 7, blk_cell k1 8, blk_cell k1 9, blk_cell k1 10, blk_cell k1 11, blk_cell k1 12, blk_cell k1 13, blk_cell k1 14, blk_cell k1 15, blk_cell k1 16⟩ ⟨_, _, _, _, _, _, _, _, _, _, m1⟩ b2
  have HD := pgS HS (Below.drew (Below.refl _ _))
  have B2 := Aside0.mk b2
  clear k1 m1 eW b2 HS
  go_region_held3 (fun w' => w'.cell? ⟨w.heap.size, 0, none⟩ = some (.bool p.e0) ∧ w'.cell? ⟨w.heap.size, 1, none⟩ = some (.string p.e1) ∧ w'.cell? ⟨w.heap.size, 2, none⟩ = some (.slice p.RA p.rn p.rc) ∧ w'.cell? ⟨w.heap.size, 3, none⟩ = some (.bool p.a0) ∧ w'.cell? ⟨w.heap.size, 4, none⟩ = some (.string p.a1) ∧ w'.cell? ⟨w.heap.size, 5, none⟩ = some (.bool p.a2) ∧ w'.cell? ⟨w.heap.size, 6, none⟩ = some (.string p.a3) ∧ w'.cell? ⟨w.heap.size, 7, none⟩ = some (.bool p.b0) ∧ w'.cell? ⟨w.heap.size, 8, none⟩ = some (.string p.b1) ∧ w'.cell? ⟨w.heap.size, 9, none⟩ = some (.bool p.b2) ∧ w'.cell? ⟨w.heap.size, 10, none⟩ = some (.string p.b3) ∧ w'.cell? ⟨w.heap.size, 11, none⟩ = some (.bool p.d0) ∧ w'.cell? ⟨w.heap.size, 12, none⟩ = some (.string p.d1) ∧ w'.cell? ⟨w.heap.size, 13, none⟩ = some (.bool p.d2) ∧ w'.cell? ⟨w.heap.size, 14, none⟩ = some (.string p.d3) ∧ w'.cell? ⟨w.heap.size, 15, none⟩ = some (.slice p.LA p.ln p.lc) ∧ w'.cell? ⟨w.heap.size, 16, none⟩ = some (.slice p.GA p.gn p.gc) ∧ w.heap.size + 1 < w'.heap.size ∧ w'.cell? ⟨w.heap.size + 1, 0, none⟩ = some (gv (w.heap.size + 1) 0 w') ∧ w'.cell? ⟨w.heap.size + 1, 1, none⟩ = some (gv (w.heap.size + 1) 1 w') ∧ w'.cell? ⟨w.heap.size + 1, 2, none⟩ = some (gv (w.heap.size + 1) 2 w') ∧ w'.cell? ⟨w.heap.size + 1, 3, none⟩ = some (gv (w.heap.size + 1) 3 w') ∧ w'.cell? ⟨w.heap.size + 1, 4, none⟩ = some (gv (w.heap.size + 1) 4 w') ∧ w'.cell? ⟨w.heap.size + 1, 5, none⟩ = some (gv (w.heap.size + 1) 5 w') ∧ w'.cell? ⟨w.heap.size + 1, 6, none⟩ = some (gv (w.heap.size + 1) 6 w') ∧ w'.cell? ⟨w.heap.size + 1, 7, none⟩ = some (gv (w.heap.size + 1) 7 w') ∧ w'.cell? ⟨w.heap.size + 1, 8, none⟩ = some (gv (w.heap.size + 1) 8 w') ∧ w'.cell? ⟨w.heap.size + 1, 9, none⟩ = some (gv (w.heap.size + 1) 9 w') ∧ w'.frozen? ⟨w.heap.size + 1, 0, none⟩ = false ∧ w'.frozen? ⟨w.heap.size + 1, 1, none⟩ = false ∧ w'.frozen? ⟨w.heap.size + 1, 2, none⟩ = false ∧ w'.frozen? ⟨w.heap.size + 1, 3, none⟩ = false ∧ w'.frozen? ⟨w.heap.size + 1, 4, none⟩ = false ∧ w'.frozen? ⟨w.heap.size + 1, 5, none⟩ = false ∧ w'.frozen? ⟨w.heap.size + 1, 6, none⟩ = false ∧ w'.frozen? ⟨w.heap.size + 1, 7, none⟩ = false ∧ w'.frozen? ⟨w.heap.size + 1, 8, none⟩ = false ∧ w'.frozen? ⟨w.heap.size + 1, 9, none⟩ = false ∧ (∃ x0 x1 x2 x3 x4 x5 x6 x7 x8 x9, w'.heap[w.heap.size + 1]? = some (Obj.cells #[x0, x1, x2, x3, x4, x5, x6, x7, x8, x9] 51 (0, 0))) ∧ Below w.heap.size w w') (first | (with_reducible assumption) | (with_reducible exact pgS (by with_reducible assumption) (by with_reducible assumption)) | (with_reducible exact pgStore _ _ _ _ _ _ _ _ _ _ (by with_reducible assumption))) (first | (go_at_call 35; (with_reducible refine (zb.out _).mono ?_); rintro e w1 ⟨q, rfl, hp, d1⟩; have P1 := Aside0.mk hp; clear hp) | (go_at_call 36; refine (zs _ ?hz).mono ?_; (case hz => first | with_reducible assumption | exact below_then (Below.drew B2.out) B2.out.size d1 | exact below_then B2.out B2.out.size d1); rintro e w1 ⟨A', c', rfl, ho, hc', d1⟩; have R1 := Aside0.mk ho; clear ho) | (go_at_call 37; (with_reducible refine (la.out _).mono ?_); rintro e w1 ⟨oa, rfl, hp, d1⟩; have Pa := Aside0.mk hp; clear hp) | (go_at_call 37; (with_reducible refine (lb.out _).mono ?_); rintro e w1 ⟨ob, rfl, hp, d1⟩; have Pb := Aside0.mk hp; clear hp) | (go_at_call 37; (with_reducible refine (ld.out _).mono ?_); rintro e w1 ⟨od, rfl, hp, d1⟩; have Pd := Aside0.mk hp; clear hp))
  have hs : PrG p w w1 := by
    refine pgS ?_ (by with_reducible assumption)
    refine pgS ?_ (by with_reducible assumption)
    refine pgS ?_ (by with_reducible assumption)
    refine pgS ?_ (by with_reducible assumption)
    exact pgS HD (by with_reducible assumption)
  have hP : IsBig w1 q (zOf p.e0 p.e1) := by
    repeat (first | with_reducible exact P1.out | refine IsBig.below ?_ (by with_reducible assumption))
  have hA : NumO w1 oa (ltN p.a0 p.a2 p.a3) := by
    repeat (first | with_reducible exact Pa.out | refine NumO.below ?_ (by with_reducible assumption))
  have hB : NumO w1 ob (ltN p.b0 p.b2 p.b3) := by
    repeat (first | with_reducible exact Pb.out | refine NumO.below ?_ (by with_reducible assumption))
  have hD : NumO w1 od (ltN p.d0 p.d2 p.d3) := by
    repeat (first | with_reducible exact Pd.out | refine NumO.below ?_ (by with_reducible assumption))
  have hR : BOwn w1 w.heap.size (.slice A' l.length c') (zsOf l) := by
    repeat (first | with_reducible exact R1.out | refine BOwn.below ?_ (by with_reducible assumption))
  have PK := Aside0.mk (@pgKeep p w w1 (.pointer (some ⟨q, 0, none⟩)) (.slice A' l.length c') (.string p.a1) (.pointer oa) (.string p.b1) (.pointer ob) (.string p.d1) (.pointer od) (.slice p.LA p.ln p.lc) (.slice p.GA p.gn p.gc) (fun w' => IsBig w' q (zOf p.e0 p.e1) ∧ BOwn w' w.heap.size (.slice A' l.length c') (zsOf l) ∧ NumO w' oa (ltN p.a0 p.a2 p.a3) ∧ NumO w' ob (ltN p.b0 p.b2 p.b3) ∧ NumO w' od (ltN p.d0 p.d2 p.d3)) (fun w' cs j u hk hF => ⟨hF.1.put hk (by decide) j u, hF.2.1.put hk (by decide) (by decide) j u, hF.2.2.1.put hk (by decide) j u, hF.2.2.2.1.put hk (by decide) j u, hF.2.2.2.2.put hk (by decide) j u⟩) ⟨hP, hR, hA, hB, hD⟩ hs)
  have PV := Aside0.mk (@pgPut p w w1 (.pointer (some ⟨q, 0, none⟩)) (.slice A' l.length c') (.string p.a1) (.pointer oa) (.string p.b1) (.pointer ob) (.string p.d1) (.pointer od) (.slice p.LA p.ln p.lc) (.slice p.GA p.gn p.gc) hs)
  clear hs HD hP hR hA hB hD
  go_wp2_with fail
  exact bodyPost_ret (results_cell_row rfl _ _ (w.heap.size + 1) 51 (loG p q A' l.length c' oa ob od) (0, 0) _ rfl PV.out.1 Tryz.underlying51 rfl (by kernel_rfl)) rfl ⟨q, A', c', oa, ob, od, rfl, PK.out.1, ⟨_, PK.out.2.1⟩, PK.out.2.2.1, PK.out.2.2.2.1, PK.out.2.2.2.2, hc', PV.out.2⟩
end Go.Proofs.YtfmndbmlpfgbnaaGreatDoor.Giv
/- Contract by hand: versions of PyPI with all their parts (impl.pypi). Printed by wip/tool/genpg.py. -/
namespace Go.Proofs.YtfmndbmlpfgbnaaGreatDoor.Giv
open Go.RowKit Go.Proofs.YtfmndbmlpfgbnaaGreatDoorW.PrintWords Go.Proofs.YtfmndbmlpfgbnaaGreatDoorW.PrintLast Go.Proofs.YtfmndbmlpfgbnaaGreatDoor.Pk Go.Proofs.YtfmndbmlpfgbnaaGreatDoor.Ord Go.Proofs.YtfmndbmlpfgbnaaGreatDoor.QN
set_option linter.unusedVariables false
set_option linter.unusedSimpArgs false
set_option maxRecDepth 100000 in
set_option maxHeartbeats 40000000 in
theorem piG_calls (p : Py) (k : Nat) (rel : List S23) (l : List S56) (w : World) (hp : p.Small) (hrn : p.rn = rel.length) (hr : Kd.C k23 w p.RA rel.length rel) (hrc : rel.length ≤ p.rc) (hb : impl_bigs.f k rel = some l) (hl : l.length ≤ 100000) (hs : ∀ x ∈ l, x.f1.size ≤ 100000) :
    Calls Tryz.prog 20 #[.agg #[.bool p.e0, .string p.e1, .slice p.RA p.rn p.rc, .bool p.a0, .string p.a1, .bool p.a2, .string p.a3, .bool p.b0, .string p.b1, .bool p.b2, .string p.b3, .bool p.d0, .string p.d1, .bool p.d2, .string p.d3, .slice p.LA p.ln p.lc, .slice p.GA p.gn p.gc]] w fun e w' => ∃ (q : Nat) (A' : Option Addr) (c' : Nat) (oa ob od : Option Addr), e = .returned (.agg (loG p q A' l.length c' oa ob od)) ∧ IsBig w' q (zOf p.e0 p.e1) ∧ (∃ bs0, BOwn w' bs0 (.slice A' l.length c') (zsOf l)) ∧ NumO w' oa (ltN p.a0 p.a2 p.a3) ∧ NumO w' ob (ltN p.b0 p.b2 p.b3) ∧ NumO w' od (ltN p.d0 p.d2 p.d3) ∧ l.length ≤ c' ∧ Below w.heap.size w w' := by
  have HR := Aside0.mk hr
  clear hr
  have b2 := below_alloc (below_alloc (Below.refl w.heap.size w) (Obj.cells #[.bool p.e0, .string p.e1, .slice p.RA p.rn p.rc, .bool p.a0, .string p.a1, .bool p.a2, .string p.a3, .bool p.b0, .string p.b1, .bool p.b2, .string p.b3, .bool p.d0, .string p.d1, .bool p.d2, .string p.d3, .slice p.LA p.ln p.lc, .slice p.GA p.gn p.gc] 29)) (Obj.cells #[.pointer none, .slice none 0 0, .string ⟨#[]⟩, .pointer none, .string ⟨#[]⟩, .pointer none, .string ⟨#[]⟩, .pointer none, .slice none 0 0, .slice none 0 0] 51)
  have k1 : ((w.alloc (Obj.cells #[.bool p.e0, .string p.e1, .slice p.RA p.rn p.rc, .bool p.a0, .string p.a1, .bool p.a2, .string p.a3, .bool p.b0, .string p.b1, .bool p.b2, .string p.b3, .bool p.d0, .string p.d1, .bool p.d2, .string p.d3, .slice p.LA p.ln p.lc, .slice p.GA p.gn p.gc] 29)).alloc (Obj.cells #[.pointer none, .slice none 0 0, .string ⟨#[]⟩, .pointer none, .string ⟨#[]⟩, .pointer none, .string ⟨#[]⟩, .pointer none, .slice none 0 0, .slice none 0 0] 51)).heap[w.heap.size]? = some (Obj.cells #[.bool p.e0, .string p.e1, .slice p.RA p.rn p.rc, .bool p.a0, .string p.a1, .bool p.a2, .string p.a3, .bool p.b0, .string p.b1, .bool p.b2, .string p.b3, .bool p.d0, .string p.d1, .bool p.d2, .string p.d3, .slice p.LA p.ln p.lc, .slice p.GA p.gn p.gc] 29) := blk_alloc (blk_new w _) _
  have m1 : ((w.alloc (Obj.cells #[.bool p.e0, .string p.e1, .slice p.RA p.rn p.rc, .bool p.a0, .string p.a1, .bool p.a2, .string p.a3, .bool p.b0, .string p.b1, .bool p.b2, .string p.b3, .bool p.d0, .string p.d1, .bool p.d2, .string p.d3, .slice p.LA p.ln p.lc, .slice p.GA p.gn p.gc] 29)).alloc (Obj.cells #[.pointer none, .slice none 0 0, .string ⟨#[]⟩, .pointer none, .string ⟨#[]⟩, .pointer none, .string ⟨#[]⟩, .pointer none, .slice none 0 0, .slice none 0 0] 51)).heap[w.heap.size + 1]? = some (Obj.cells #[.pointer none, .slice none 0 0, .string ⟨#[]⟩, .pointer none, .string ⟨#[]⟩, .pointer none, .string ⟨#[]⟩, .pointer none, .slice none 0 0, .slice none 0 0] 51) := by
    have := blk_new (w.alloc (Obj.cells #[.bool p.e0, .string p.e1, .slice p.RA p.rn p.rc, .bool p.a0, .string p.a1, .bool p.a2, .string p.a3, .bool p.b0, .string p.b1, .bool p.b2, .string p.b3, .bool p.d0, .string p.d1, .bool p.d2, .string p.d3, .slice p.LA p.ln p.lc, .slice p.GA p.gn p.gc] 29)) (Obj.cells #[.pointer none, .slice none 0 0, .string ⟨#[]⟩, .pointer none, .string ⟨#[]⟩, .pointer none, .string ⟨#[]⟩, .pointer none, .slice none 0 0, .slice none 0 0] 51)
    simpa using this
  have la := Aside0.mk (fun w' : World => implLetterG p.a0 p.a1 p.a2 p.a3 w')
  have lb := Aside0.mk (fun w' : World => implLetterG p.b0 p.b1 p.b2 p.b3 w')
  have ld := Aside0.mk (fun w' : World => implLetterG p.d0 p.d1 p.d2 p.d3 w')
  have bn : ∀ w' : World, Below w.heap.size w w' → Calls Tryz.prog 29 #[.slice p.RA p.rn p.rc] w' fun e w'' => ∃ (A2 : Option Addr) (c2 : Nat), e = .returned (.slice A2 l.length c2) ∧ Kd.C k56 w'' A2 l.length l ∧ Below w'.heap.size w' w'' := fun w' d => by
    rw [hrn]
    refine (impl_bigs.calls k p.RA p.rc rel l w' (Kd.C_below HR.out d) hrc hb).mono ?_
    rintro e w'' ⟨v, rfl, ho, d2⟩
    obtain ⟨A2, c2, rfl, _, h2⟩ := Kd.R_reads ho
    exact ⟨A2, c2, rfl, h2, d2⟩
  have pv : ∀ (A2 : Option Addr) (c2 : Nat) (w' : World), Kd.C k56 w' A2 l.length l → Calls Tryz.prog 28 #[.agg #[.bool p.e0, .string p.e1, .slice A2 l.length c2, .bool p.a0, .string p.a1, .bool p.a2, .string p.a3, .bool p.b0, .string p.b1, .bool p.b2, .string p.b3, .bool p.d0, .string p.d1, .bool p.d2, .string p.d3, .slice p.LA p.ln p.lc, .slice p.GA p.gn p.gc]] w' fun e w'' => ∃ (q : Nat) (A' : Option Addr) (c' : Nat) (oa ob od : Option Addr), e = .returned (.agg (loG p q A' l.length c' oa ob od)) ∧ IsBig w'' q (zOf p.e0 p.e1) ∧ (∃ bs0, BOwn w'' bs0 (.slice A' l.length c') (zsOf l)) ∧ NumO w'' oa (ltN p.a0 p.a2 p.a3) ∧ NumO w'' ob (ltN p.b0 p.b2 p.b3) ∧ NumO w'' od (ltN p.d0 p.d2 p.d3) ∧ l.length ≤ c' ∧ Below w'.heap.size w' w'' := fun A2 c2 w' h => pyG_calls { p with RA := A2, rn := l.length, rc := c2 } l w' ⟨hp.e, hp.a, hp.b, hp.d⟩ rfl h hl hs
  clear hrn hs hl hb hp
  go_enter Tryz.func20, Tryz.ntmps20
  go_wp2_with fail
  obtain ⟨W, eW⟩ : ∃ W, W = ((w.alloc (Obj.cells #[.bool p.e0, .string p.e1, .slice p.RA p.rn p.rc, .bool p.a0, .string p.a1, .bool p.a2, .string p.a3, .bool p.b0, .string p.b1, .bool p.b2, .string p.b3, .bool p.d0, .string p.d1, .bool p.d2, .string p.d3, .slice p.LA p.ln p.lc, .slice p.GA p.gn p.gc] 29)).alloc (Obj.cells #[.pointer none, .slice none 0 0, .string ⟨#[]⟩, .pointer none, .string ⟨#[]⟩, .pointer none, .string ⟨#[]⟩, .pointer none, .slice none 0 0, .slice none 0 0] 51)) := ⟨_, rfl⟩
  rw [← eW] at b2 k1 m1 ⊢
  have HS := pgMk (p := p) (w0 := w) (w1 := W) ⟨blk_cell k1 0, blk_cell k1 1, blk_cell k1 2, blk_cell k1 3, blk_cell k1 4, blk_cell k1 5, blk_cell k1 6, blk_cell k1 7, blk_cell k1 8, blk_cell k1 9, blk_cell k1 10, blk_cell k1 11, blk_cell k1 12, blk_cell k1 13, blk_cell k1 14, blk_cell k1 15, blk_cell k1 16⟩ ⟨_, _, _, _, _, _, _, _, _, _, m1⟩ b2
  have HD := pgS HS (Below.drew (Below.refl _ _))
  have B2 := Aside0.mk b2
  clear k1 m1 eW b2 HS
  go_region_held3 (fun w' => w'.cell? ⟨w.heap.size, 0, none⟩ = some (.bool p.e0) ∧ w'.cell? ⟨w.heap.size, 1, none⟩ = some (.string p.e1) ∧ w'.cell? ⟨w.heap.size, 2, none⟩ = some (.slice p.RA p.rn p.rc) ∧ w'.cell? ⟨w.heap.size, 3, none⟩ = some (.bool p.a0) ∧ w'.cell? ⟨w.heap.size, 4, none⟩ = some (.string p.a1) ∧ w'.cell? ⟨w.heap.size, 5, none⟩ = some (.bool p.a2) ∧ w'.cell? ⟨w.heap.size, 6, none⟩ = some (.string p.a3) ∧ w'.cell? ⟨w.heap.size, 7, none⟩ = some (.bool p.b0) ∧ w'.cell? ⟨w.heap.size, 8, none⟩ = some (.string p.b1) ∧ w'.cell? ⟨w.heap.size, 9, none⟩ = some (.bool p.b2) ∧ w'.cell? ⟨w.heap.size, 10, none⟩ = some (.string p.b3) ∧ w'.cell? ⟨w.heap.size, 11, none⟩ = some (.bool p.d0) ∧ w'.cell? ⟨w.heap.size, 12, none⟩ = some (.string p.d1) ∧ w'.cell? ⟨w.heap.size, 13, none⟩ = some (.bool p.d2) ∧ w'.cell? ⟨w.heap.size, 14, none⟩ = some (.string p.d3) ∧ w'.cell? ⟨w.heap.size, 15, none⟩ = some (.slice p.LA p.ln p.lc) ∧ w'.cell? ⟨w.heap.size, 16, none⟩ = some (.slice p.GA p.gn p.gc) ∧ w.heap.size + 1 < w'.heap.size ∧ w'.cell? ⟨w.heap.size + 1, 0, none⟩ = some (gv (w.heap.size + 1) 0 w') ∧ w'.cell? ⟨w.heap.size + 1, 1, none⟩ = some (gv (w.heap.size + 1) 1 w') ∧ w'.cell? ⟨w.heap.size + 1, 2, none⟩ = some (gv (w.heap.size + 1) 2 w') ∧ w'.cell? ⟨w.heap.size + 1, 3, none⟩ = some (gv (w.heap.size + 1) 3 w') ∧ w'.cell? ⟨w.heap.size + 1, 4, none⟩ = some (gv (w.heap.size + 1) 4 w') ∧ w'.cell? ⟨w.heap.size + 1, 5, none⟩ = some (gv (w.heap.size + 1) 5 w') ∧ w'.cell? ⟨w.heap.size + 1, 6, none⟩ = some (gv (w.heap.size + 1) 6 w') ∧ w'.cell? ⟨w.heap.size + 1, 7, none⟩ = some (gv (w.heap.size + 1) 7 w') ∧ w'.cell? ⟨w.heap.size + 1, 8, none⟩ = some (gv (w.heap.size + 1) 8 w') ∧ w'.cell? ⟨w.heap.size + 1, 9, none⟩ = some (gv (w.heap.size + 1) 9 w') ∧ w'.frozen? ⟨w.heap.size + 1, 0, none⟩ = false ∧ w'.frozen? ⟨w.heap.size + 1, 1, none⟩ = false ∧ w'.frozen? ⟨w.heap.size + 1, 2, none⟩ = false ∧ w'.frozen? ⟨w.heap.size + 1, 3, none⟩ = false ∧ w'.frozen? ⟨w.heap.size + 1, 4, none⟩ = false ∧ w'.frozen? ⟨w.heap.size + 1, 5, none⟩ = false ∧ w'.frozen? ⟨w.heap.size + 1, 6, none⟩ = false ∧ w'.frozen? ⟨w.heap.size + 1, 7, none⟩ = false ∧ w'.frozen? ⟨w.heap.size + 1, 8, none⟩ = false ∧ w'.frozen? ⟨w.heap.size + 1, 9, none⟩ = false ∧ (∃ x0 x1 x2 x3 x4 x5 x6 x7 x8 x9, w'.heap[w.heap.size + 1]? = some (Obj.cells #[x0, x1, x2, x3, x4, x5, x6, x7, x8, x9] 51 (0, 0))) ∧ Below w.heap.size w w') (first | (with_reducible assumption) | (with_reducible exact pgS (by with_reducible assumption) (by with_reducible assumption)) | (with_reducible exact pgStore _ _ _ _ _ _ _ _ _ _ (by with_reducible assumption))) (first | (go_at_call 29; refine (bn _ ?hz).mono ?_; (case hz => first | with_reducible assumption | exact Below.drew B2.out | exact B2.out); rintro e w1 ⟨A2, c2, rfl, h2, d1⟩; have R2 := Aside0.mk h2; clear h2) | (go_at_call 30; (with_reducible refine (la.out _).mono ?_); rintro e w1 ⟨rfl, d1⟩) | (go_at_call 30; (with_reducible refine (lb.out _).mono ?_); rintro e w1 ⟨rfl, d1⟩) | (go_at_call 30; (with_reducible refine (ld.out _).mono ?_); rintro e w1 ⟨rfl, d1⟩) | (go_at_call 28; refine (pv A2 c2 _ ?hz).mono ?_; (case hz => repeat (first | with_reducible exact R2.out | refine Kd.C_below ?_ (by with_reducible assumption))); rintro e w1 ⟨q, A', c', oa, ob, od, rfl, hp, ho, ha, hb, hd, hc', d1⟩; have P1 := Aside0.mk hp; have R1 := Aside0.mk ho; have Pa := Aside0.mk ha; have Pb := Aside0.mk hb; have Pd := Aside0.mk hd; clear hp ho ha hb hd))
  have hs : PrG p w w1 := by
    refine pgS ?_ (by with_reducible assumption)
    refine pgS ?_ (by with_reducible assumption)
    refine pgS ?_ (by with_reducible assumption)
    refine pgS ?_ (by with_reducible assumption)
    exact pgS HD (by with_reducible assumption)
  obtain ⟨bs0, hR⟩ := R1.out
  have PK := Aside0.mk (@pgKeep p w w1 (.pointer (some ⟨q, 0, none⟩)) (.slice A' l.length c') (.string p.a1) (.pointer oa) (.string p.b1) (.pointer ob) (.string p.d1) (.pointer od) (.slice p.LA p.ln p.lc) (.slice p.GA p.gn p.gc) (fun w' => IsBig w' q (zOf p.e0 p.e1) ∧ BOwn w' bs0 (.slice A' l.length c') (zsOf l) ∧ NumO w' oa (ltN p.a0 p.a2 p.a3) ∧ NumO w' ob (ltN p.b0 p.b2 p.b3) ∧ NumO w' od (ltN p.d0 p.d2 p.d3)) (fun w' cs j u hk hF => ⟨hF.1.put hk (by decide) j u, hF.2.1.put hk (by decide) (by decide) j u, hF.2.2.1.put hk (by decide) j u, hF.2.2.2.1.put hk (by decide) j u, hF.2.2.2.2.put hk (by decide) j u⟩) ⟨P1.out, hR, Pa.out, Pb.out, Pd.out⟩ hs)
  have PV := Aside0.mk (@pgPut p w w1 (.pointer (some ⟨q, 0, none⟩)) (.slice A' l.length c') (.string p.a1) (.pointer oa) (.string p.b1) (.pointer ob) (.string p.d1) (.pointer od) (.slice p.LA p.ln p.lc) (.slice p.GA p.gn p.gc) hs)
  clear hs HD hR
  go_wp2_with fail
  exact bodyPost_ret (results_cell_row rfl _ _ (w.heap.size + 1) 51 (loG p q A' l.length c' oa ob od) (0, 0) _ rfl PV.out.1 Tryz.underlying51 rfl (by kernel_rfl)) rfl ⟨q, A', c', oa, ob, od, rfl, PK.out.1, ⟨_, PK.out.2.1⟩, PK.out.2.2.1, PK.out.2.2.2.1, PK.out.2.2.2.2, hc', PV.out.2⟩
end Go.Proofs.YtfmndbmlpfgbnaaGreatDoor.Giv
/- Contracts by hand: the parts of two versions of PyPI compared. Printed by wip/tool/genpj.py. -/
namespace Go.Proofs.YtfmndbmlpfgbnaaGreatDoor.Giv
open Go.RowKit Go.Proofs.YtfmndbmlpfgbnaaGreatDoorW.PrintWords Go.Proofs.YtfmndbmlpfgbnaaGreatDoorW.PrintLast Go.Proofs.YtfmndbmlpfgbnaaGreatDoor.Pk Go.Proofs.YtfmndbmlpfgbnaaGreatDoor.Ord Go.Proofs.YtfmndbmlpfgbnaaGreatDoor.QN
set_option linter.unusedVariables false
set_option linter.unusedSimpArgs false

theorem w2a (X Y : Obj) (w : World) : ((w.alloc X).alloc Y).heap[w.heap.size]? = some X ∧ ((w.alloc X).alloc Y).heap[w.heap.size + 1]? = some Y ∧ Below w.heap.size w ((w.alloc X).alloc Y) := by
  refine ⟨blk_alloc (blk_new w X) _, ?_, below_alloc (below_alloc (Below.refl _ _) _) _⟩
  have := blk_new (w.alloc X) Y
  simpa using this
/-- Numbers that may be missing, held against each other: none is below (post-releases), none is above (development releases). -/
def poC : Option Int → Option Int → Int
  | none, none => 0
  | none, some _ => -1
  | some _, none => 1
  | some x, some y => cI x y
def deC : Option Int → Option Int → Int
  | none, none => 0
  | none, some _ => 1
  | some _, none => -1
  | some x, some y => cI x y

set_option maxRecDepth 100000 in
set_option maxHeartbeats 4000000 in
theorem postG (x0 x1 : Value) (s0 s1 s2 : ByteArray) (o0 o1 o2 : Option Addr) (LA : Option Addr) (ln lc : Nat) (GA : Option Addr) (gn gc : Nat) (y0 y1 : Value) (t0 t1 t2 : ByteArray) (p0 p1 p2 : Option Addr) (MA : Option Addr) (mn mc : Nat) (HA : Option Addr) (hn hc : Nat) (z y : Option Int) (w : World) (hz : NumO w o1 z) (hy : NumO w p1 y) :
    Calls Tryz.prog 46 #[.agg #[x0, x1, .string s0, .pointer o0, .string s1, .pointer o1, .string s2, .pointer o2, .slice LA ln lc, .slice GA gn gc], .agg #[y0, y1, .string t0, .pointer p0, .string t1, .pointer p1, .string t2, .pointer p2, .slice MA mn mc, .slice HA hn hc]] w fun e w' => e = .returned (.int .i64 (poC z y)) ∧ Below w.heap.size w w' := by
  cases z with
  | none =>
    cases y with
    | none =>
      obtain rfl := hz
      obtain rfl := hy
      obtain ⟨k1, m1, b2⟩ := w2a (Obj.cells #[x0, x1, .string s0, .pointer o0, .string s1, .pointer none, .string s2, .pointer o2, .slice LA ln lc, .slice GA gn gc] 51) (Obj.cells #[y0, y1, .string t0, .pointer p0, .string t1, .pointer none, .string t2, .pointer p2, .slice MA mn mc, .slice HA hn hc] 51) w
      have B2 := Aside0.mk b2
      have q5 := blk_cell k1 5
      have r5 := blk_cell m1 5
      clear b2 k1 m1
      go_enter Tryz.func46, Tryz.ntmps46
      go_wp2_with fail
      go_ret
      exact ⟨rfl, B2.out⟩
    | some y =>
      obtain rfl := hz
      obtain ⟨yp, rfl, hy⟩ := hy
      obtain ⟨k1, m1, b2⟩ := w2a (Obj.cells #[x0, x1, .string s0, .pointer o0, .string s1, .pointer none, .string s2, .pointer o2, .slice LA ln lc, .slice GA gn gc] 51) (Obj.cells #[y0, y1, .string t0, .pointer p0, .string t1, .pointer (some ⟨yp, 0, none⟩), .string t2, .pointer p2, .slice MA mn mc, .slice HA hn hc] 51) w
      have B2 := Aside0.mk b2
      have q5 := blk_cell k1 5
      have r5 := blk_cell m1 5
      clear b2 k1 m1
      go_enter Tryz.func46, Tryz.ntmps46
      go_wp2_with fail
      go_ret
      exact ⟨rfl, B2.out⟩
  | some z =>
    cases y with
    | none =>
      obtain ⟨zp, rfl, hz⟩ := hz
      obtain rfl := hy
      obtain ⟨k1, m1, b2⟩ := w2a (Obj.cells #[x0, x1, .string s0, .pointer o0, .string s1, .pointer (some ⟨zp, 0, none⟩), .string s2, .pointer o2, .slice LA ln lc, .slice GA gn gc] 51) (Obj.cells #[y0, y1, .string t0, .pointer p0, .string t1, .pointer none, .string t2, .pointer p2, .slice MA mn mc, .slice HA hn hc] 51) w
      have B2 := Aside0.mk b2
      have q5 := blk_cell k1 5
      have r5 := blk_cell m1 5
      clear b2 k1 m1
      go_enter Tryz.func46, Tryz.ntmps46
      go_wp2_with fail
      go_ret
      exact ⟨rfl, B2.out⟩
    | some y =>
      obtain ⟨zp, rfl, hz⟩ := hz
      obtain ⟨yp, rfl, hy⟩ := hy
      obtain ⟨k1, m1, b2⟩ := w2a (Obj.cells #[x0, x1, .string s0, .pointer o0, .string s1, .pointer (some ⟨zp, 0, none⟩), .string s2, .pointer o2, .slice LA ln lc, .slice GA gn gc] 51) (Obj.cells #[y0, y1, .string t0, .pointer p0, .string t1, .pointer (some ⟨yp, 0, none⟩), .string t2, .pointer p2, .slice MA mn mc, .slice HA hn hc] 51) w
      have B2 := Aside0.mk b2
      have q5 := blk_cell k1 5
      have r5 := blk_cell m1 5
      have cm := fun (w' : World) (d : Below w.heap.size w w') => Cmp_calls z y zp yp w' (hz.below d) (hy.below d)
      clear b2 k1 m1
      go_enter Tryz.func46, Tryz.ntmps46
      go_wp2_with (first | (go_at_call 40; (with_reducible refine (cm _ B2.out).mono ?_); rintro e w1 ⟨rfl, nd, rfl⟩))
      go_ret
      exact ⟨rfl, pw_below_drewN B2.out _⟩
set_option maxRecDepth 100000 in
set_option maxHeartbeats 4000000 in
theorem devG (x0 x1 : Value) (s0 s1 s2 : ByteArray) (o0 o1 o2 : Option Addr) (LA : Option Addr) (ln lc : Nat) (GA : Option Addr) (gn gc : Nat) (y0 y1 : Value) (t0 t1 t2 : ByteArray) (p0 p1 p2 : Option Addr) (MA : Option Addr) (mn mc : Nat) (HA : Option Addr) (hn hc : Nat) (z y : Option Int) (w : World) (hz : NumO w o2 z) (hy : NumO w p2 y) :
    Calls Tryz.prog 47 #[.agg #[x0, x1, .string s0, .pointer o0, .string s1, .pointer o1, .string s2, .pointer o2, .slice LA ln lc, .slice GA gn gc], .agg #[y0, y1, .string t0, .pointer p0, .string t1, .pointer p1, .string t2, .pointer p2, .slice MA mn mc, .slice HA hn hc]] w fun e w' => e = .returned (.int .i64 (deC z y)) ∧ Below w.heap.size w w' := by
  cases z with
  | none =>
    cases y with
    | none =>
      obtain rfl := hz
      obtain rfl := hy
      obtain ⟨k1, m1, b2⟩ := w2a (Obj.cells #[x0, x1, .string s0, .pointer o0, .string s1, .pointer o1, .string s2, .pointer none, .slice LA ln lc, .slice GA gn gc] 51) (Obj.cells #[y0, y1, .string t0, .pointer p0, .string t1, .pointer p1, .string t2, .pointer none, .slice MA mn mc, .slice HA hn hc] 51) w
      have B2 := Aside0.mk b2
      have q7 := blk_cell k1 7
      have r7 := blk_cell m1 7
      clear b2 k1 m1
      go_enter Tryz.func47, Tryz.ntmps47
      go_wp2_with fail
      go_ret
      exact ⟨rfl, B2.out⟩
    | some y =>
      obtain rfl := hz
      obtain ⟨yp, rfl, hy⟩ := hy
      obtain ⟨k1, m1, b2⟩ := w2a (Obj.cells #[x0, x1, .string s0, .pointer o0, .string s1, .pointer o1, .string s2, .pointer none, .slice LA ln lc, .slice GA gn gc] 51) (Obj.cells #[y0, y1, .string t0, .pointer p0, .string t1, .pointer p1, .string t2, .pointer (some ⟨yp, 0, none⟩), .slice MA mn mc, .slice HA hn hc] 51) w
      have B2 := Aside0.mk b2
      have q7 := blk_cell k1 7
      have r7 := blk_cell m1 7
      clear b2 k1 m1
      go_enter Tryz.func47, Tryz.ntmps47
      go_wp2_with fail
      go_ret
      exact ⟨rfl, B2.out⟩
  | some z =>
    cases y with
    | none =>
      obtain ⟨zp, rfl, hz⟩ := hz
      obtain rfl := hy
      obtain ⟨k1, m1, b2⟩ := w2a (Obj.cells #[x0, x1, .string s0, .pointer o0, .string s1, .pointer o1, .string s2, .pointer (some ⟨zp, 0, none⟩), .slice LA ln lc, .slice GA gn gc] 51) (Obj.cells #[y0, y1, .string t0, .pointer p0, .string t1, .pointer p1, .string t2, .pointer none, .slice MA mn mc, .slice HA hn hc] 51) w
      have B2 := Aside0.mk b2
      have q7 := blk_cell k1 7
      have r7 := blk_cell m1 7
      clear b2 k1 m1
      go_enter Tryz.func47, Tryz.ntmps47
      go_wp2_with fail
      go_ret
      exact ⟨rfl, B2.out⟩
    | some y =>
      obtain ⟨zp, rfl, hz⟩ := hz
      obtain ⟨yp, rfl, hy⟩ := hy
      obtain ⟨k1, m1, b2⟩ := w2a (Obj.cells #[x0, x1, .string s0, .pointer o0, .string s1, .pointer o1, .string s2, .pointer (some ⟨zp, 0, none⟩), .slice LA ln lc, .slice GA gn gc] 51) (Obj.cells #[y0, y1, .string t0, .pointer p0, .string t1, .pointer p1, .string t2, .pointer (some ⟨yp, 0, none⟩), .slice MA mn mc, .slice HA hn hc] 51) w
      have B2 := Aside0.mk b2
      have q7 := blk_cell k1 7
      have r7 := blk_cell m1 7
      have cm := fun (w' : World) (d : Below w.heap.size w w') => Cmp_calls z y zp yp w' (hz.below d) (hy.below d)
      clear b2 k1 m1
      go_enter Tryz.func47, Tryz.ntmps47
      go_wp2_with (first | (go_at_call 40; (with_reducible refine (cm _ B2.out).mono ?_); rintro e w1 ⟨rfl, nd, rfl⟩))
      go_ret
      exact ⟨rfl, pw_below_drewN B2.out _⟩
/-- Is it a development release of the release itself? -/
def trk (z0 z1 z2 : Option Int) : Bool := z0.isNone && z1.isNone && z2.isSome
set_option maxRecDepth 100000 in
set_option maxHeartbeats 4000000 in
theorem trickG (x0 x1 : Value) (s0 s1 s2 : ByteArray) (o0 o1 o2 : Option Addr) (LA : Option Addr) (ln lc : Nat) (GA : Option Addr) (gn gc : Nat) (z0 z1 z2 : Option Int) (w : World) (h0 : NumO w o0 z0) (h1 : NumO w o1 z1) (h2 : NumO w o2 z2) :
    Calls Tryz.prog 55 #[.agg #[x0, x1, .string s0, .pointer o0, .string s1, .pointer o1, .string s2, .pointer o2, .slice LA ln lc, .slice GA gn gc]] w fun e w' => e = .returned (.bool (trk z0 z1 z2)) ∧ Below w.heap.size w w' := by
  cases z0 with
  | none =>
    cases z1 with
    | none =>
      cases z2 with
      | none =>
        obtain rfl := h0
        obtain rfl := h1
        obtain rfl := h2
        have k1 := blk_new w (Obj.cells #[x0, x1, .string s0, .pointer none, .string s1, .pointer none, .string s2, .pointer none, .slice LA ln lc, .slice GA gn gc] 51)
        have B1 := Aside0.mk (below_alloc (Below.refl w.heap.size w) (Obj.cells #[x0, x1, .string s0, .pointer none, .string s1, .pointer none, .string s2, .pointer none, .slice LA ln lc, .slice GA gn gc] 51))
        have q3 := blk_cell k1 3
        have q5 := blk_cell k1 5
        have q7 := blk_cell k1 7
        clear k1
        go_enter Tryz.func55, Tryz.ntmps55
        go_wp2_with fail
        go_ret
        exact ⟨rfl, B1.out⟩
      | some z2 =>
        obtain rfl := h0
        obtain rfl := h1
        obtain ⟨a2, rfl, h2⟩ := h2
        have k1 := blk_new w (Obj.cells #[x0, x1, .string s0, .pointer none, .string s1, .pointer none, .string s2, .pointer (some ⟨a2, 0, none⟩), .slice LA ln lc, .slice GA gn gc] 51)
        have B1 := Aside0.mk (below_alloc (Below.refl w.heap.size w) (Obj.cells #[x0, x1, .string s0, .pointer none, .string s1, .pointer none, .string s2, .pointer (some ⟨a2, 0, none⟩), .slice LA ln lc, .slice GA gn gc] 51))
        have q3 := blk_cell k1 3
        have q5 := blk_cell k1 5
        have q7 := blk_cell k1 7
        clear k1
        go_enter Tryz.func55, Tryz.ntmps55
        go_wp2_with fail
        go_ret
        exact ⟨rfl, B1.out⟩
    | some z1 =>
      cases z2 with
      | none =>
        obtain rfl := h0
        obtain ⟨a1, rfl, h1⟩ := h1
        obtain rfl := h2
        have k1 := blk_new w (Obj.cells #[x0, x1, .string s0, .pointer none, .string s1, .pointer (some ⟨a1, 0, none⟩), .string s2, .pointer none, .slice LA ln lc, .slice GA gn gc] 51)
        have B1 := Aside0.mk (below_alloc (Below.refl w.heap.size w) (Obj.cells #[x0, x1, .string s0, .pointer none, .string s1, .pointer (some ⟨a1, 0, none⟩), .string s2, .pointer none, .slice LA ln lc, .slice GA gn gc] 51))
        have q3 := blk_cell k1 3
        have q5 := blk_cell k1 5
        have q7 := blk_cell k1 7
        clear k1
        go_enter Tryz.func55, Tryz.ntmps55
        go_wp2_with fail
        go_ret
        exact ⟨rfl, B1.out⟩
      | some z2 =>
        obtain rfl := h0
        obtain ⟨a1, rfl, h1⟩ := h1
        obtain ⟨a2, rfl, h2⟩ := h2
        have k1 := blk_new w (Obj.cells #[x0, x1, .string s0, .pointer none, .string s1, .pointer (some ⟨a1, 0, none⟩), .string s2, .pointer (some ⟨a2, 0, none⟩), .slice LA ln lc, .slice GA gn gc] 51)
        have B1 := Aside0.mk (below_alloc (Below.refl w.heap.size w) (Obj.cells #[x0, x1, .string s0, .pointer none, .string s1, .pointer (some ⟨a1, 0, none⟩), .string s2, .pointer (some ⟨a2, 0, none⟩), .slice LA ln lc, .slice GA gn gc] 51))
        have q3 := blk_cell k1 3
        have q5 := blk_cell k1 5
        have q7 := blk_cell k1 7
        clear k1
        go_enter Tryz.func55, Tryz.ntmps55
        go_wp2_with fail
        go_ret
        exact ⟨rfl, B1.out⟩
  | some z0 =>
    cases z1 with
    | none =>
      cases z2 with
      | none =>
        obtain ⟨a0, rfl, h0⟩ := h0
        obtain rfl := h1
        obtain rfl := h2
        have k1 := blk_new w (Obj.cells #[x0, x1, .string s0, .pointer (some ⟨a0, 0, none⟩), .string s1, .pointer none, .string s2, .pointer none, .slice LA ln lc, .slice GA gn gc] 51)
        have B1 := Aside0.mk (below_alloc (Below.refl w.heap.size w) (Obj.cells #[x0, x1, .string s0, .pointer (some ⟨a0, 0, none⟩), .string s1, .pointer none, .string s2, .pointer none, .slice LA ln lc, .slice GA gn gc] 51))
        have q3 := blk_cell k1 3
        have q5 := blk_cell k1 5
        have q7 := blk_cell k1 7
        clear k1
        go_enter Tryz.func55, Tryz.ntmps55
        go_wp2_with fail
        go_ret
        exact ⟨rfl, B1.out⟩
      | some z2 =>
        obtain ⟨a0, rfl, h0⟩ := h0
        obtain rfl := h1
        obtain ⟨a2, rfl, h2⟩ := h2
        have k1 := blk_new w (Obj.cells #[x0, x1, .string s0, .pointer (some ⟨a0, 0, none⟩), .string s1, .pointer none, .string s2, .pointer (some ⟨a2, 0, none⟩), .slice LA ln lc, .slice GA gn gc] 51)
        have B1 := Aside0.mk (below_alloc (Below.refl w.heap.size w) (Obj.cells #[x0, x1, .string s0, .pointer (some ⟨a0, 0, none⟩), .string s1, .pointer none, .string s2, .pointer (some ⟨a2, 0, none⟩), .slice LA ln lc, .slice GA gn gc] 51))
        have q3 := blk_cell k1 3
        have q5 := blk_cell k1 5
        have q7 := blk_cell k1 7
        clear k1
        go_enter Tryz.func55, Tryz.ntmps55
        go_wp2_with fail
        go_ret
        exact ⟨rfl, B1.out⟩
    | some z1 =>
      cases z2 with
      | none =>
        obtain ⟨a0, rfl, h0⟩ := h0
        obtain ⟨a1, rfl, h1⟩ := h1
        obtain rfl := h2
        have k1 := blk_new w (Obj.cells #[x0, x1, .string s0, .pointer (some ⟨a0, 0, none⟩), .string s1, .pointer (some ⟨a1, 0, none⟩), .string s2, .pointer none, .slice LA ln lc, .slice GA gn gc] 51)
        have B1 := Aside0.mk (below_alloc (Below.refl w.heap.size w) (Obj.cells #[x0, x1, .string s0, .pointer (some ⟨a0, 0, none⟩), .string s1, .pointer (some ⟨a1, 0, none⟩), .string s2, .pointer none, .slice LA ln lc, .slice GA gn gc] 51))
        have q3 := blk_cell k1 3
        have q5 := blk_cell k1 5
        have q7 := blk_cell k1 7
        clear k1
        go_enter Tryz.func55, Tryz.ntmps55
        go_wp2_with fail
        go_ret
        exact ⟨rfl, B1.out⟩
      | some z2 =>
        obtain ⟨a0, rfl, h0⟩ := h0
        obtain ⟨a1, rfl, h1⟩ := h1
        obtain ⟨a2, rfl, h2⟩ := h2
        have k1 := blk_new w (Obj.cells #[x0, x1, .string s0, .pointer (some ⟨a0, 0, none⟩), .string s1, .pointer (some ⟨a1, 0, none⟩), .string s2, .pointer (some ⟨a2, 0, none⟩), .slice LA ln lc, .slice GA gn gc] 51)
        have B1 := Aside0.mk (below_alloc (Below.refl w.heap.size w) (Obj.cells #[x0, x1, .string s0, .pointer (some ⟨a0, 0, none⟩), .string s1, .pointer (some ⟨a1, 0, none⟩), .string s2, .pointer (some ⟨a2, 0, none⟩), .slice LA ln lc, .slice GA gn gc] 51))
        have q3 := blk_cell k1 3
        have q5 := blk_cell k1 5
        have q7 := blk_cell k1 7
        clear k1
        go_enter Tryz.func55, Tryz.ntmps55
        go_wp2_with fail
        go_ret
        exact ⟨rfl, B1.out⟩
end Go.Proofs.YtfmndbmlpfgbnaaGreatDoor.Giv
/- Contract by hand: the local parts of two versions of PyPI with all their parts compared. Turned by wip/tool/genpj.py out of GivLq. -/
namespace Go.Proofs.YtfmndbmlpfgbnaaGreatDoor.Giv
open Go.RowKit Go.Proofs.YtfmndbmlpfgbnaaGreatDoorW.PrintWords Go.Proofs.YtfmndbmlpfgbnaaGreatDoorW.PrintLast Go.Proofs.YtfmndbmlpfgbnaaGreatDoor.Pk Go.Proofs.YtfmndbmlpfgbnaaGreatDoor.Ord
set_option linter.unusedVariables false
set_option linter.unusedSimpArgs false
set_option maxRecDepth 100000 in
set_option maxHeartbeats 4000000 in
theorem localG (e0 e1 v0 v1 : Value) (s0 s1 s2 t0 t1 t2 : ByteArray) (o0 o1 o2 p0 p1 p2 GA HA : Option Addr) (gn gc hn hc : Nat) (a b : List ByteArray) (A0 A1 : Option Addr) (c0 c1 : Nat) (w0 : World) (hr0 : Kd.C Kd.string w0 A0 a.length a) (hr1 : Kd.C Kd.string w0 A1 b.length b) (ha : fit a = true) (hb : fit b = true) (hL : Laid w0) :
    Calls Tryz.prog 33 #[.agg #[e0, v0, .string s0, .pointer o0, .string s1, .pointer o1, .string s2, .pointer o2, .slice A0 a.length c0, .slice GA gn gc], .agg #[e1, v1, .string t0, .pointer p0, .string t1, .pointer p1, .string t2, .pointer p2, .slice A1 b.length c1, .slice HA hn hc]] w0 fun e w' => e = .returned (.int .i64 (lexL pyC (tl a) (tl b))) ∧ Below w0.heap.size w0 w' := by
  have b2 := below_alloc (below_alloc (Below.refl w0.heap.size w0) (Obj.cells #[e0, v0, .string s0, .pointer o0, .string s1, .pointer o1, .string s2, .pointer o2, .slice A0 a.length c0, .slice GA gn gc] 51)) (Obj.cells #[e1, v1, .string t0, .pointer p0, .string t1, .pointer p1, .string t2, .pointer p2, .slice A1 b.length c1, .slice HA hn hc] 51)
  have k1 : ((w0.alloc (Obj.cells #[e0, v0, .string s0, .pointer o0, .string s1, .pointer o1, .string s2, .pointer o2, .slice A0 a.length c0, .slice GA gn gc] 51)).alloc (Obj.cells #[e1, v1, .string t0, .pointer p0, .string t1, .pointer p1, .string t2, .pointer p2, .slice A1 b.length c1, .slice HA hn hc] 51)).heap[w0.heap.size]? = some (Obj.cells #[e0, v0, .string s0, .pointer o0, .string s1, .pointer o1, .string s2, .pointer o2, .slice A0 a.length c0, .slice GA gn gc] 51) := blk_alloc (blk_new w0 _) _
  have m1 : ((w0.alloc (Obj.cells #[e0, v0, .string s0, .pointer o0, .string s1, .pointer o1, .string s2, .pointer o2, .slice A0 a.length c0, .slice GA gn gc] 51)).alloc (Obj.cells #[e1, v1, .string t0, .pointer p0, .string t1, .pointer p1, .string t2, .pointer p2, .slice A1 b.length c1, .slice HA hn hc] 51)).heap[w0.heap.size + 1]? = some (Obj.cells #[e1, v1, .string t0, .pointer p0, .string t1, .pointer p1, .string t2, .pointer p2, .slice A1 b.length c1, .slice HA hn hc] 51) := by
    have := blk_new (w0.alloc (Obj.cells #[e0, v0, .string s0, .pointer o0, .string s1, .pointer o1, .string s2, .pointer o2, .slice A0 a.length c0, .slice GA gn gc] 51)) (Obj.cells #[e1, v1, .string t0, .pointer p0, .string t1, .pointer p1, .string t2, .pointer p2, .slice A1 b.length c1, .slice HA hn hc] 51)
    simpa using this
  have q0 : ((w0.alloc (Obj.cells #[e0, v0, .string s0, .pointer o0, .string s1, .pointer o1, .string s2, .pointer o2, .slice A0 a.length c0, .slice GA gn gc] 51)).alloc (Obj.cells #[e1, v1, .string t0, .pointer p0, .string t1, .pointer p1, .string t2, .pointer p2, .slice A1 b.length c1, .slice HA hn hc] 51)).cell? ⟨w0.heap.size, 8, none⟩ = some (.slice A0 a.length c0) := blk_cell k1 8
  have q1 : ((w0.alloc (Obj.cells #[e0, v0, .string s0, .pointer o0, .string s1, .pointer o1, .string s2, .pointer o2, .slice A0 a.length c0, .slice GA gn gc] 51)).alloc (Obj.cells #[e1, v1, .string t0, .pointer p0, .string t1, .pointer p1, .string t2, .pointer p2, .slice A1 b.length c1, .slice HA hn hc] 51)).cell? ⟨w0.heap.size + 1, 8, none⟩ = some (.slice A1 b.length c1) := blk_cell m1 8
  obtain ⟨w, ew⟩ : ∃ w, w = ((w0.alloc (Obj.cells #[e0, v0, .string s0, .pointer o0, .string s1, .pointer o1, .string s2, .pointer o2, .slice A0 a.length c0, .slice GA gn gc] 51)).alloc (Obj.cells #[e1, v1, .string t0, .pointer p0, .string t1, .pointer p1, .string t2, .pointer p2, .slice A1 b.length c1, .slice HA hn hc] 51)) := ⟨_, rfl⟩
  have EW := Aside0.mk ew
  rw [← ew] at b2 k1 m1
  have B2 := Aside0.mk b2
  have F0 := Aside0.mk (show ∀ w', Below w.heap.size w w' → w'.cell? ⟨w0.heap.size, 8, none⟩ = some (.slice A0 a.length c0) from fun w' h => blk_cell ((h.block _ (blk_lt k1)).trans k1) 8)
  have F1 := Aside0.mk (show ∀ w', Below w.heap.size w w' → w'.cell? ⟨w0.heap.size + 1, 8, none⟩ = some (.slice A1 b.length c1) from fun w' h => blk_cell ((h.block _ (blk_lt m1)).trans m1) 8)
  have HR0 := Aside0.mk hr0
  have HR1 := Aside0.mk hr1
  have HL := Aside0.mk (hL.below b2)
  have la := fit_len ha
  have lb := fit_len hb
  obtain ⟨n, en⟩ : ∃ n, n = min a.length b.length := ⟨_, rfl⟩
  have EN := Aside0.mk en
  have mx : min (a.length : Int) (b.length : Int) = (n : Int) := by omega
  have hn : n ≤ 100000 := by omega
  clear hr0 hr1 hL en k1 m1 b2 ew
  go_enter Tryz.func33, Tryz.ntmps33
  go_wp2_with fail
  clear mx q0 q1
  go_loopw [20] (fun v20 wr => ∃ k : Nat, v20 = .int .i64 k ∧ k ≤ n ∧ Below w.heap.size w wr ∧ lexL pyC ((tl a).drop k) ((tl b).drop k) = lexL pyC (tl a) (tl b)) (fun v20 wr => n - (intOf v20).toNat)
  case atStart => exact ⟨0, rfl, Nat.zero_le _, by rw [EW.out]; exact Below.refl _ _, rfl⟩
  case round =>
    obtain ⟨k, rfl, hk, hbw, hlex⟩ := hrel
    have BL0 := Aside0.mk hbw
    have BS0 := Aside0.mk hbw.size
    by_cases hlt : k < n
    · have ka : k < a.length := by have := EN.out; omega
      have kb : k < b.length := by have := EN.out; omega
      have st := lo_drop pyC (tl a) (tl b) k (by rw [tl_len]; exact ka) (by rw [tl_len]; exact kb)
      rw [hlex] at st
      have EP : Aside0 (lexL pyC (tl a) (tl b) = lexL pyC (tl a) (tl b)) := Aside0.mk rfl
      have hxs := lo_get ha k ka
      have hys := lo_get hb k kb
      obtain ⟨adx, rfl, cx0⟩ := Kd.at_string HR0.out (k : Int) (by omega) (by omega)
      obtain ⟨ady, rfl, cy0⟩ := Kd.at_string HR1.out (k : Int) (by omega) (by omega)
      rw [rdOf_nat _ _ k ka, Int.toNat_natCast] at cx0
      rw [rdOf_nat _ _ k kb, Int.toNat_natCast] at cy0
      obtain ⟨x, ex⟩ : ∃ x, x = a[k]'ka := ⟨_, rfl⟩
      obtain ⟨y, ey⟩ : ∃ y, y = b[k]'kb := ⟨_, rfl⟩
      rw [← ex] at hxs cx0
      rw [← ey] at hys cy0
      have gx : (tl a)[k]'(by rw [tl_len]; exact ka) = x.toList := by rw [ex]; simp [tl]
      have gy : (tl b)[k]'(by rw [tl_len]; exact kb) = y.toList := by rw [ey]; simp [tl]
      rw [gx, gy] at st
      have cellX := Aside0.mk (show ∀ w', Below w.heap.size w w' → w'.cell? (adx.add k) = some (.string x) from fun w' h => pw_cell_below h (pw_cell_below B2.out cx0))
      have cellY := Aside0.mk (show ∀ w', Below w.heap.size w w' → w'.cell? (ady.add k) = some (.string y) from fun w' h => pw_cell_below h (pw_cell_below B2.out cy0))
      have xc0 := cellX.out _ hbw
      have xl0 := F0.out _ hbw
      have wk : wrap64 ((k : Int) + 1) = ((k + 1 : Nat) : Int) := Pk.wr k (by omega)
      have f4 : (k : Int) < (n : Int) := Int.ofNat_lt.2 hlt
      have f5 : (k : Int) < (a.length : Int) := Int.ofNat_lt.2 ka
      have f6 : (k : Int) < (b.length : Int) := Int.ofNat_lt.2 kb
      have kn : k + 1 ≤ n := hlt
      clear ex ey hlex hbw ha hb hlt la lb hn gx gy cx0 cy0
      have cm := fun p q b1 b2 w' (h1 : IsBig w' b1 p) (h2 : IsBig w' b2 q) => Cmp_calls p q b1 b2 w' h1 h2
      cases hp : Num.parse x.toList with
      | some p =>
        have cx := fun (w' : World) (hb' : Below w.heap.size w w') => conv_some x w' p hxs (HL.out.below hb') hp
        cases hq : Num.parse y.toList with
        | some q =>
          have cy := fun (w' : World) (hb' : Below w.heap.size w w') => conv_some y w' q hys (HL.out.below hb') hq
          rw [pyC_nn hp hq] at st
          have cm0 := fun b1 b2 w' h1 h2 => cm p q b1 b2 w' h1 h2
          clear cm
          rcases cI_cmp.rng p q with hz | hz | hz
          · rw [hz] at st cm0
            clear hz
            rw [if_neg (by decide)] at st
            have ST := Aside0.mk (EP.out.trans st)
            clear st hp hq
            go_wp2_with (first | (go_at_call 39; (with_reducible refine (cx _ BL0.out).mono ?_); rintro e w1 ⟨bx, rfl, q1, d1⟩; have BL1 := Aside0.mk (below_then BL0.out BS0.out d1); have BS1 := Aside0.mk (Nat.le_trans BS0.out d1.size); have D1 := Aside0.mk d1; have Q1 := Aside0.mk q1; clear d1 q1; have yc1 := cellY.out _ BL1.out; have yl1 := F1.out _ BL1.out) | (go_at_call 39; (with_reducible refine (cy _ BL1.out).mono ?_); rintro e w2 ⟨by_, rfl, q2, d2⟩; have BL2 := Aside0.mk (below_then BL1.out BS1.out d2); have BS2 := Aside0.mk (Nat.le_trans BS1.out d2.size); have D2 := Aside0.mk d2; have Q2 := Aside0.mk q2; clear d2 q2; have xc2 := cellX.out _ BL2.out; have yc2 := cellY.out _ BL2.out; have xl2 := F0.out _ BL2.out; have yl2 := F1.out _ BL2.out) | (go_at_call 40; (with_reducible refine (cm0 _ _ _ (Q1.out.below D2.out) Q2.out).mono ?_); rintro e w3 ⟨rfl, d3⟩; have BL3 := Aside0.mk (below_then BL2.out BS2.out d3.below); clear d3))
            go_ret
            exact ⟨by rw [ST.out]; rfl, below_then B2.out B2.out.size BL3.out⟩
          · rw [hz] at st cm0
            clear hz
            rw [if_pos (by decide)] at st
            have ST := Aside0.mk st
            clear st hp hq
            go_wp2_with (first | (go_at_call 39; (with_reducible refine (cx _ BL0.out).mono ?_); rintro e w1 ⟨bx, rfl, q1, d1⟩; have BL1 := Aside0.mk (below_then BL0.out BS0.out d1); have BS1 := Aside0.mk (Nat.le_trans BS0.out d1.size); have D1 := Aside0.mk d1; have Q1 := Aside0.mk q1; clear d1 q1; have yc1 := cellY.out _ BL1.out; have yl1 := F1.out _ BL1.out) | (go_at_call 39; (with_reducible refine (cy _ BL1.out).mono ?_); rintro e w2 ⟨by_, rfl, q2, d2⟩; have BL2 := Aside0.mk (below_then BL1.out BS1.out d2); have BS2 := Aside0.mk (Nat.le_trans BS1.out d2.size); have D2 := Aside0.mk d2; have Q2 := Aside0.mk q2; clear d2 q2; have xc2 := cellX.out _ BL2.out; have yc2 := cellY.out _ BL2.out; have xl2 := F0.out _ BL2.out; have yl2 := F1.out _ BL2.out) | (go_at_call 40; (with_reducible refine (cm0 _ _ _ (Q1.out.below D2.out) Q2.out).mono ?_); rintro e w3 ⟨rfl, d3⟩; have BL3 := Aside0.mk (below_then BL2.out BS2.out d3.below); clear d3))
            rw [wk]
            exact ⟨⟨k + 1, rfl, kn, BL3.out, ST.out.symm⟩, by simp only [intOf]; omega⟩
          · rw [hz] at st cm0
            clear hz
            rw [if_neg (by decide)] at st
            have ST := Aside0.mk (EP.out.trans st)
            clear st hp hq
            go_wp2_with (first | (go_at_call 39; (with_reducible refine (cx _ BL0.out).mono ?_); rintro e w1 ⟨bx, rfl, q1, d1⟩; have BL1 := Aside0.mk (below_then BL0.out BS0.out d1); have BS1 := Aside0.mk (Nat.le_trans BS0.out d1.size); have D1 := Aside0.mk d1; have Q1 := Aside0.mk q1; clear d1 q1; have yc1 := cellY.out _ BL1.out; have yl1 := F1.out _ BL1.out) | (go_at_call 39; (with_reducible refine (cy _ BL1.out).mono ?_); rintro e w2 ⟨by_, rfl, q2, d2⟩; have BL2 := Aside0.mk (below_then BL1.out BS1.out d2); have BS2 := Aside0.mk (Nat.le_trans BS1.out d2.size); have D2 := Aside0.mk d2; have Q2 := Aside0.mk q2; clear d2 q2; have xc2 := cellX.out _ BL2.out; have yc2 := cellY.out _ BL2.out; have xl2 := F0.out _ BL2.out; have yl2 := F1.out _ BL2.out) | (go_at_call 40; (with_reducible refine (cm0 _ _ _ (Q1.out.below D2.out) Q2.out).mono ?_); rintro e w3 ⟨rfl, d3⟩; have BL3 := Aside0.mk (below_then BL2.out BS2.out d3.below); clear d3))
            go_ret
            exact ⟨by rw [ST.out]; rfl, below_then B2.out B2.out.size BL3.out⟩
        | none =>
          have cy := fun (w' : World) (hb' : Below w.heap.size w w') => conv_none y w' hys (HL.out.below hb') hq
          rw [pyC_nt hp hq] at st
          clear cm
          rw [if_neg (by decide)] at st
          have ST := Aside0.mk (EP.out.trans st)
          clear st hp hq
          go_wp2_with (first | (go_at_call 39; (with_reducible refine (cx _ BL0.out).mono ?_); rintro e w1 ⟨bx, rfl, q1, d1⟩; have BL1 := Aside0.mk (below_then BL0.out BS0.out d1); have BS1 := Aside0.mk (Nat.le_trans BS0.out d1.size); have D1 := Aside0.mk d1; have Q1 := Aside0.mk q1; clear d1 q1; have yc1 := cellY.out _ BL1.out; have yl1 := F1.out _ BL1.out) | (go_at_call 39; (with_reducible refine (cy _ BL1.out).mono ?_); rintro e w2 ⟨er2, rfl, d2⟩; have BL2 := Aside0.mk (below_then BL1.out BS1.out d2); have BS2 := Aside0.mk (Nat.le_trans BS1.out d2.size); clear d2; have xc2 := cellX.out _ BL2.out; have yc2 := cellY.out _ BL2.out; have xl2 := F0.out _ BL2.out; have yl2 := F1.out _ BL2.out))
          go_ret
          exact ⟨by rw [ST.out]; rfl, below_then B2.out B2.out.size BL2.out⟩
      | none =>
        have cx := fun (w' : World) (hb' : Below w.heap.size w w') => conv_none x w' hxs (HL.out.below hb') hp
        clear cm
        cases hq : Num.parse y.toList with
        | some q =>
          have cy := fun (w' : World) (hb' : Below w.heap.size w w') => conv_some y w' q hys (HL.out.below hb') hq
          rw [pyC_tn hp hq] at st
          rw [if_neg (by decide)] at st
          have ST := Aside0.mk (EP.out.trans st)
          clear st hp hq
          go_wp2_with (first | (go_at_call 39; (with_reducible refine (cx _ BL0.out).mono ?_); rintro e w1 ⟨er1, rfl, d1⟩; have BL1 := Aside0.mk (below_then BL0.out BS0.out d1); have BS1 := Aside0.mk (Nat.le_trans BS0.out d1.size); clear d1; have yc1 := cellY.out _ BL1.out; have yl1 := F1.out _ BL1.out) | (go_at_call 39; (with_reducible refine (cy _ BL1.out).mono ?_); rintro e w2 ⟨by_, rfl, q2, d2⟩; have BL2 := Aside0.mk (below_then BL1.out BS1.out d2); have BS2 := Aside0.mk (Nat.le_trans BS1.out d2.size); have D2 := Aside0.mk d2; have Q2 := Aside0.mk q2; clear d2 q2; have xc2 := cellX.out _ BL2.out; have yc2 := cellY.out _ BL2.out; have xl2 := F0.out _ BL2.out; have yl2 := F1.out _ BL2.out))
          go_ret
          exact ⟨by rw [ST.out]; rfl, below_then B2.out B2.out.size BL2.out⟩
        | none =>
          have cy := fun (w' : World) (hb' : Below w.heap.size w w') => conv_none y w' hys (HL.out.below hb') hq
          have sc0 := fun w => Tryz.strings_Compare x y w
          simp only [compare_cS, ← toList_eq'] at sc0
          rw [pyC_tt hp hq] at st
          rcases cS_cmp.rng x.toList y.toList with hz | hz | hz
          · rw [hz] at st
            simp only [hz] at sc0
            clear hz
            rw [if_neg (by decide)] at st
            have ST := Aside0.mk (EP.out.trans st)
            clear st hp hq
            go_wp2_with (first | (go_at_call 39; (with_reducible refine (cx _ BL0.out).mono ?_); rintro e w1 ⟨er1, rfl, d1⟩; have BL1 := Aside0.mk (below_then BL0.out BS0.out d1); have BS1 := Aside0.mk (Nat.le_trans BS0.out d1.size); clear d1; have yc1 := cellY.out _ BL1.out; have yl1 := F1.out _ BL1.out) | (go_at_call 39; (with_reducible refine (cy _ BL1.out).mono ?_); rintro e w2 ⟨er2, rfl, d2⟩; have BL2 := Aside0.mk (below_then BL1.out BS1.out d2); have BS2 := Aside0.mk (Nat.le_trans BS1.out d2.size); clear d2; have xc2 := cellX.out _ BL2.out; have yc2 := cellY.out _ BL2.out; have xl2 := F0.out _ BL2.out; have yl2 := F1.out _ BL2.out))
            go_quiet ((go_at_call 41; exact Calls.quiet_of_same (sc0 _)))
            go_wp2_with fail
            go_ret
            exact ⟨by rw [ST.out]; rfl, below_then B2.out B2.out.size (pw_below_drewN BL2.out _)⟩
          · rw [hz] at st
            simp only [hz] at sc0
            clear hz
            rw [if_pos (by decide)] at st
            have ST := Aside0.mk st
            clear st hp hq
            go_wp2_with (first | (go_at_call 39; (with_reducible refine (cx _ BL0.out).mono ?_); rintro e w1 ⟨er1, rfl, d1⟩; have BL1 := Aside0.mk (below_then BL0.out BS0.out d1); have BS1 := Aside0.mk (Nat.le_trans BS0.out d1.size); clear d1; have yc1 := cellY.out _ BL1.out; have yl1 := F1.out _ BL1.out) | (go_at_call 39; (with_reducible refine (cy _ BL1.out).mono ?_); rintro e w2 ⟨er2, rfl, d2⟩; have BL2 := Aside0.mk (below_then BL1.out BS1.out d2); have BS2 := Aside0.mk (Nat.le_trans BS1.out d2.size); clear d2; have xc2 := cellX.out _ BL2.out; have yc2 := cellY.out _ BL2.out; have xl2 := F0.out _ BL2.out; have yl2 := F1.out _ BL2.out))
            go_quiet ((go_at_call 41; exact Calls.quiet_of_same (sc0 _)))
            go_wp2_with fail
            rw [wk]
            exact ⟨⟨k + 1, rfl, kn, pw_below_drewN BL2.out _, ST.out.symm⟩, by simp only [intOf]; omega⟩
          · rw [hz] at st
            simp only [hz] at sc0
            clear hz
            rw [if_neg (by decide)] at st
            have ST := Aside0.mk (EP.out.trans st)
            clear st hp hq
            go_wp2_with (first | (go_at_call 39; (with_reducible refine (cx _ BL0.out).mono ?_); rintro e w1 ⟨er1, rfl, d1⟩; have BL1 := Aside0.mk (below_then BL0.out BS0.out d1); have BS1 := Aside0.mk (Nat.le_trans BS0.out d1.size); clear d1; have yc1 := cellY.out _ BL1.out; have yl1 := F1.out _ BL1.out) | (go_at_call 39; (with_reducible refine (cy _ BL1.out).mono ?_); rintro e w2 ⟨er2, rfl, d2⟩; have BL2 := Aside0.mk (below_then BL1.out BS1.out d2); have BS2 := Aside0.mk (Nat.le_trans BS1.out d2.size); clear d2; have xc2 := cellX.out _ BL2.out; have yc2 := cellY.out _ BL2.out; have xl2 := F0.out _ BL2.out; have yl2 := F1.out _ BL2.out))
            go_quiet ((go_at_call 41; exact Calls.quiet_of_same (sc0 _)))
            go_wp2_with fail
            go_ret
            exact ⟨by rw [ST.out]; rfl, below_then B2.out B2.out.size (pw_below_drewN BL2.out _)⟩
    · have e : k = n := by omega
      have le := lo_end pyC (tl a) (tl b) k (by rw [e, tl_len, tl_len]; exact EN.out)
      rw [hlex, tl_len, tl_len] at le
      have f4 : ¬ (k : Int) < (n : Int) := by omega
      have LE := Aside0.mk le
      have xl0 := F0.out _ hbw
      have yl0 := F1.out _ hbw
      clear hlex hbw le ha hb la lb hn e hlt
      rcases Nat.lt_trichotomy a.length b.length with h1 | h1 | h1
      · have g1 : decide ((a.length : Int) > (b.length : Int)) = false := decide_eq_false (by omega)
        have g3 : decide (b.length < a.length) = false := decide_eq_false (by omega)
        have g2 : decide (a.length < b.length) = true := decide_eq_true h1
        have LC := Aside0.mk (LE.out.trans (cI_neg.2 (by omega)))
        go_wp2_with fail
        go_ret
        exact ⟨by rw [LC.out]; rfl, below_then B2.out B2.out.size BL0.out⟩
      · have g3 : decide (b.length < a.length) = false := decide_eq_false (by omega)
        have g2 : decide (a.length < b.length) = false := decide_eq_false (by omega)
        have LC := Aside0.mk (LE.out.trans (cI_zero.2 (by omega)))
        have H1 := Aside0.mk h1
        clear h1
        go_wp2_with fail
        go_ret
        exact ⟨by rw [LC.out]; rfl, below_then B2.out B2.out.size BL0.out⟩
      · have g3 : decide (b.length < a.length) = true := decide_eq_true h1
        have LC := Aside0.mk (LE.out.trans (cI_pos.2 (by omega)))
        go_wp2_with fail
        go_ret
        exact ⟨by rw [LC.out]; rfl, below_then B2.out B2.out.size BL0.out⟩
end Go.Proofs.YtfmndbmlpfgbnaaGreatDoor.Giv
/- Contracts by hand: pre-releases, what is no version of PEP 440, epochs and releases of two versions of PyPI compared. Printed by wip/tool/genpj.py. -/
namespace Go.Proofs.YtfmndbmlpfgbnaaGreatDoor.Giv
open Go.RowKit Go.Proofs.YtfmndbmlpfgbnaaGreatDoorW.PrintWords Go.Proofs.YtfmndbmlpfgbnaaGreatDoorW.PrintLast Go.Proofs.YtfmndbmlpfgbnaaGreatDoor.Pk Go.Proofs.YtfmndbmlpfgbnaaGreatDoor.Ord Go.Proofs.YtfmndbmlpfgbnaaGreatDoor.QN
set_option linter.unusedVariables false
set_option linter.unusedSimpArgs false

/-- Pre-releases compared. -/
def pre2 (ta tb : Bool) (a : ByteArray) (z0 : Option Int) (b : ByteArray) (y0 : Option Int) : Int :=
  if ta = true then (if tb = true then 0 else -1) else if tb = true then 1 else
  match z0, y0 with
  | none, none => 0
  | none, some _ => 1
  | some _, none => -1
  | some x, some y => if bt b 0 < bt a 0 then 1 else if bt a 0 < bt b 0 then -1 else cI x y
def preC (a : ByteArray) (z0 z1 z2 : Option Int) (b : ByteArray) (y0 y1 y2 : Option Int) : Int := pre2 (trk z0 z1 z2) (trk y0 y1 y2) a z0 b y0
/-- Lists of texts, of which one may be empty, held against each other by what they are joined. -/
def legC (a b : List ByteArray) : Int := if a = [] then (if b = [] then 0 else 1) else if b = [] then -1 else cS (a.flatMap (·.toList)) (b.flatMap (·.toList))

set_option maxRecDepth 100000 in
set_option maxHeartbeats 8000000 in
theorem preG (x0 x1 : Value) (s0 s1 s2 : ByteArray) (o0 o1 o2 : Option Addr) (LA : Option Addr) (ln lc : Nat) (GA : Option Addr) (gn gc : Nat) (y0 y1 : Value) (t0 t1 t2 : ByteArray) (p0 p1 p2 : Option Addr) (MA : Option Addr) (mn mc : Nat) (HA : Option Addr) (hn hc : Nat) (z0 z1 z2 y0' y1' y2' : Option Int) (w : World) (hz0 : NumO w o0 z0) (hz1 : NumO w o1 z1) (hz2 : NumO w o2 z2) (hy0 : NumO w p0 y0') (hy1 : NumO w p1 y1') (hy2 : NumO w p2 y2') (hs : z0.isSome = true → 0 < s0.size) (ht : y0'.isSome = true → 0 < t0.size) :
    Calls Tryz.prog 45 #[.agg #[x0, x1, .string s0, .pointer o0, .string s1, .pointer o1, .string s2, .pointer o2, .slice LA ln lc, .slice GA gn gc], .agg #[y0, y1, .string t0, .pointer p0, .string t1, .pointer p1, .string t2, .pointer p2, .slice MA mn mc, .slice HA hn hc]] w fun e w' => e = .returned (.int .i64 (preC s0 z0 z1 z2 t0 y0' y1' y2')) ∧ Below w.heap.size w w' := by
  obtain ⟨k1, m1, b2⟩ := w2a (Obj.cells #[x0, x1, .string s0, .pointer o0, .string s1, .pointer o1, .string s2, .pointer o2, .slice LA ln lc, .slice GA gn gc] 51) (Obj.cells #[y0, y1, .string t0, .pointer p0, .string t1, .pointer p1, .string t2, .pointer p2, .slice MA mn mc, .slice HA hn hc] 51) w
  have B2 := Aside0.mk b2
  have K0 := Aside0.mk k1
  have M0 := Aside0.mk m1
  have tu := Aside0.mk (fun (w' : World) (d : Below w.heap.size w w') => trickG x0 x1 s0 s1 s2 o0 o1 o2 LA ln lc GA gn gc z0 z1 z2 w' (hz0.below d) (hz1.below d) (hz2.below d))
  have tv := Aside0.mk (fun (w' : World) (d : Below w.heap.size w w') => trickG y0 y1 t0 t1 t2 p0 p1 p2 MA mn mc HA hn hc y0' y1' y2' w' (hy0.below d) (hy1.below d) (hy2.below d))
  obtain ⟨a, ha⟩ : ∃ a, trk z0 z1 z2 = a := ⟨_, rfl⟩
  obtain ⟨b, hb⟩ : ∃ b, trk y0' y1' y2' = b := ⟨_, rfl⟩
  have e : preC s0 z0 z1 z2 t0 y0' y1' y2' = pre2 a b s0 z0 t0 y0' := by unfold preC; rw [ha, hb]
  rw [e]
  clear e
  rw [ha] at tu
  rw [hb] at tv
  clear ha hb hz1 hz2 hy1 hy2
  cases a with
  | true =>
    cases b with
    | true =>
      have x0_ := blk_cell k1 0
      have x1_ := blk_cell k1 1
      have x2_ := blk_cell k1 2
      have x3_ := blk_cell k1 3
      have x4_ := blk_cell k1 4
      have x5_ := blk_cell k1 5
      have x6_ := blk_cell k1 6
      have x7_ := blk_cell k1 7
      have x8_ := blk_cell k1 8
      have x9_ := blk_cell k1 9
      have z0_ := blk_cell m1 0
      have z1_ := blk_cell m1 1
      have z2_ := blk_cell m1 2
      have z3_ := blk_cell m1 3
      have z4_ := blk_cell m1 4
      have z5_ := blk_cell m1 5
      have z6_ := blk_cell m1 6
      have z7_ := blk_cell m1 7
      have z8_ := blk_cell m1 8
      have z9_ := blk_cell m1 9
      clear k1 m1 b2
      go_enter Tryz.func45, Tryz.ntmps45
      go_wp2_with (first | (go_at_call 55; (with_reducible refine (tu.out _ B2.out).mono ?_); rintro e w0 ⟨rfl, d⟩; have C1 := Aside0.mk (below_then B2.out B2.out.size d); have K1 := Aside0.mk (blk_below K0.out d); have M1 := Aside0.mk (blk_below M0.out d); clear x0_ x1_ x2_ x3_ x4_ x5_ x6_ x7_ x8_ x9_ z0_ z1_ z2_ z3_ z4_ z5_ z6_ z7_ z8_ z9_; have x0_ := blk_cell K1.out 0; have x1_ := blk_cell K1.out 1; have x2_ := blk_cell K1.out 2; have x3_ := blk_cell K1.out 3; have x4_ := blk_cell K1.out 4; have x5_ := blk_cell K1.out 5; have x6_ := blk_cell K1.out 6; have x7_ := blk_cell K1.out 7; have x8_ := blk_cell K1.out 8; have x9_ := blk_cell K1.out 9; have z0_ := blk_cell M1.out 0; have z1_ := blk_cell M1.out 1; have z2_ := blk_cell M1.out 2; have z3_ := blk_cell M1.out 3; have z4_ := blk_cell M1.out 4; have z5_ := blk_cell M1.out 5; have z6_ := blk_cell M1.out 6; have z7_ := blk_cell M1.out 7; have z8_ := blk_cell M1.out 8; have z9_ := blk_cell M1.out 9; clear d) | (go_at_call 55; (with_reducible refine (tv.out _ C1.out).mono ?_); rintro e w1 ⟨rfl, d⟩; have C2 := Aside0.mk (below_then C1.out C1.out.size d); have K2 := Aside0.mk (blk_below K1.out d); have M2 := Aside0.mk (blk_below M1.out d); clear x0_ x1_ x2_ x3_ x4_ x5_ x6_ x7_ x8_ x9_ z0_ z1_ z2_ z3_ z4_ z5_ z6_ z7_ z8_ z9_; have x0_ := blk_cell K2.out 0; have x1_ := blk_cell K2.out 1; have x2_ := blk_cell K2.out 2; have x3_ := blk_cell K2.out 3; have x4_ := blk_cell K2.out 4; have x5_ := blk_cell K2.out 5; have x6_ := blk_cell K2.out 6; have x7_ := blk_cell K2.out 7; have x8_ := blk_cell K2.out 8; have x9_ := blk_cell K2.out 9; have z0_ := blk_cell M2.out 0; have z1_ := blk_cell M2.out 1; have z2_ := blk_cell M2.out 2; have z3_ := blk_cell M2.out 3; have z4_ := blk_cell M2.out 4; have z5_ := blk_cell M2.out 5; have z6_ := blk_cell M2.out 6; have z7_ := blk_cell M2.out 7; have z8_ := blk_cell M2.out 8; have z9_ := blk_cell M2.out 9; clear d))
      go_ret
      exact ⟨rfl, C2.out⟩
    | false =>
      have x0_ := blk_cell k1 0
      have x1_ := blk_cell k1 1
      have x2_ := blk_cell k1 2
      have x3_ := blk_cell k1 3
      have x4_ := blk_cell k1 4
      have x5_ := blk_cell k1 5
      have x6_ := blk_cell k1 6
      have x7_ := blk_cell k1 7
      have x8_ := blk_cell k1 8
      have x9_ := blk_cell k1 9
      have z0_ := blk_cell m1 0
      have z1_ := blk_cell m1 1
      have z2_ := blk_cell m1 2
      have z3_ := blk_cell m1 3
      have z4_ := blk_cell m1 4
      have z5_ := blk_cell m1 5
      have z6_ := blk_cell m1 6
      have z7_ := blk_cell m1 7
      have z8_ := blk_cell m1 8
      have z9_ := blk_cell m1 9
      clear k1 m1 b2
      go_enter Tryz.func45, Tryz.ntmps45
      go_wp2_with (first | (go_at_call 55; (with_reducible refine (tu.out _ B2.out).mono ?_); rintro e w0 ⟨rfl, d⟩; have C1 := Aside0.mk (below_then B2.out B2.out.size d); have K1 := Aside0.mk (blk_below K0.out d); have M1 := Aside0.mk (blk_below M0.out d); clear x0_ x1_ x2_ x3_ x4_ x5_ x6_ x7_ x8_ x9_ z0_ z1_ z2_ z3_ z4_ z5_ z6_ z7_ z8_ z9_; have x0_ := blk_cell K1.out 0; have x1_ := blk_cell K1.out 1; have x2_ := blk_cell K1.out 2; have x3_ := blk_cell K1.out 3; have x4_ := blk_cell K1.out 4; have x5_ := blk_cell K1.out 5; have x6_ := blk_cell K1.out 6; have x7_ := blk_cell K1.out 7; have x8_ := blk_cell K1.out 8; have x9_ := blk_cell K1.out 9; have z0_ := blk_cell M1.out 0; have z1_ := blk_cell M1.out 1; have z2_ := blk_cell M1.out 2; have z3_ := blk_cell M1.out 3; have z4_ := blk_cell M1.out 4; have z5_ := blk_cell M1.out 5; have z6_ := blk_cell M1.out 6; have z7_ := blk_cell M1.out 7; have z8_ := blk_cell M1.out 8; have z9_ := blk_cell M1.out 9; clear d) | (go_at_call 55; (with_reducible refine (tv.out _ C1.out).mono ?_); rintro e w1 ⟨rfl, d⟩; have C2 := Aside0.mk (below_then C1.out C1.out.size d); have K2 := Aside0.mk (blk_below K1.out d); have M2 := Aside0.mk (blk_below M1.out d); clear x0_ x1_ x2_ x3_ x4_ x5_ x6_ x7_ x8_ x9_ z0_ z1_ z2_ z3_ z4_ z5_ z6_ z7_ z8_ z9_; have x0_ := blk_cell K2.out 0; have x1_ := blk_cell K2.out 1; have x2_ := blk_cell K2.out 2; have x3_ := blk_cell K2.out 3; have x4_ := blk_cell K2.out 4; have x5_ := blk_cell K2.out 5; have x6_ := blk_cell K2.out 6; have x7_ := blk_cell K2.out 7; have x8_ := blk_cell K2.out 8; have x9_ := blk_cell K2.out 9; have z0_ := blk_cell M2.out 0; have z1_ := blk_cell M2.out 1; have z2_ := blk_cell M2.out 2; have z3_ := blk_cell M2.out 3; have z4_ := blk_cell M2.out 4; have z5_ := blk_cell M2.out 5; have z6_ := blk_cell M2.out 6; have z7_ := blk_cell M2.out 7; have z8_ := blk_cell M2.out 8; have z9_ := blk_cell M2.out 9; clear d) | (go_at_call 55; (with_reducible refine (tu.out _ C2.out).mono ?_); rintro e w2 ⟨rfl, d⟩; have C3 := Aside0.mk (below_then C2.out C2.out.size d); have K3 := Aside0.mk (blk_below K2.out d); have M3 := Aside0.mk (blk_below M2.out d); clear x0_ x1_ x2_ x3_ x4_ x5_ x6_ x7_ x8_ x9_ z0_ z1_ z2_ z3_ z4_ z5_ z6_ z7_ z8_ z9_; have x0_ := blk_cell K3.out 0; have x1_ := blk_cell K3.out 1; have x2_ := blk_cell K3.out 2; have x3_ := blk_cell K3.out 3; have x4_ := blk_cell K3.out 4; have x5_ := blk_cell K3.out 5; have x6_ := blk_cell K3.out 6; have x7_ := blk_cell K3.out 7; have x8_ := blk_cell K3.out 8; have x9_ := blk_cell K3.out 9; have z0_ := blk_cell M3.out 0; have z1_ := blk_cell M3.out 1; have z2_ := blk_cell M3.out 2; have z3_ := blk_cell M3.out 3; have z4_ := blk_cell M3.out 4; have z5_ := blk_cell M3.out 5; have z6_ := blk_cell M3.out 6; have z7_ := blk_cell M3.out 7; have z8_ := blk_cell M3.out 8; have z9_ := blk_cell M3.out 9; clear d))
      go_ret
      exact ⟨rfl, C3.out⟩
  | false =>
    cases b with
    | true =>
      have x0_ := blk_cell k1 0
      have x1_ := blk_cell k1 1
      have x2_ := blk_cell k1 2
      have x3_ := blk_cell k1 3
      have x4_ := blk_cell k1 4
      have x5_ := blk_cell k1 5
      have x6_ := blk_cell k1 6
      have x7_ := blk_cell k1 7
      have x8_ := blk_cell k1 8
      have x9_ := blk_cell k1 9
      have z0_ := blk_cell m1 0
      have z1_ := blk_cell m1 1
      have z2_ := blk_cell m1 2
      have z3_ := blk_cell m1 3
      have z4_ := blk_cell m1 4
      have z5_ := blk_cell m1 5
      have z6_ := blk_cell m1 6
      have z7_ := blk_cell m1 7
      have z8_ := blk_cell m1 8
      have z9_ := blk_cell m1 9
      clear k1 m1 b2
      go_enter Tryz.func45, Tryz.ntmps45
      go_wp2_with (first | (go_at_call 55; (with_reducible refine (tu.out _ B2.out).mono ?_); rintro e w0 ⟨rfl, d⟩; have C1 := Aside0.mk (below_then B2.out B2.out.size d); have K1 := Aside0.mk (blk_below K0.out d); have M1 := Aside0.mk (blk_below M0.out d); clear x0_ x1_ x2_ x3_ x4_ x5_ x6_ x7_ x8_ x9_ z0_ z1_ z2_ z3_ z4_ z5_ z6_ z7_ z8_ z9_; have x0_ := blk_cell K1.out 0; have x1_ := blk_cell K1.out 1; have x2_ := blk_cell K1.out 2; have x3_ := blk_cell K1.out 3; have x4_ := blk_cell K1.out 4; have x5_ := blk_cell K1.out 5; have x6_ := blk_cell K1.out 6; have x7_ := blk_cell K1.out 7; have x8_ := blk_cell K1.out 8; have x9_ := blk_cell K1.out 9; have z0_ := blk_cell M1.out 0; have z1_ := blk_cell M1.out 1; have z2_ := blk_cell M1.out 2; have z3_ := blk_cell M1.out 3; have z4_ := blk_cell M1.out 4; have z5_ := blk_cell M1.out 5; have z6_ := blk_cell M1.out 6; have z7_ := blk_cell M1.out 7; have z8_ := blk_cell M1.out 8; have z9_ := blk_cell M1.out 9; clear d) | (go_at_call 55; (with_reducible refine (tu.out _ C1.out).mono ?_); rintro e w1 ⟨rfl, d⟩; have C2 := Aside0.mk (below_then C1.out C1.out.size d); have K2 := Aside0.mk (blk_below K1.out d); have M2 := Aside0.mk (blk_below M1.out d); clear x0_ x1_ x2_ x3_ x4_ x5_ x6_ x7_ x8_ x9_ z0_ z1_ z2_ z3_ z4_ z5_ z6_ z7_ z8_ z9_; have x0_ := blk_cell K2.out 0; have x1_ := blk_cell K2.out 1; have x2_ := blk_cell K2.out 2; have x3_ := blk_cell K2.out 3; have x4_ := blk_cell K2.out 4; have x5_ := blk_cell K2.out 5; have x6_ := blk_cell K2.out 6; have x7_ := blk_cell K2.out 7; have x8_ := blk_cell K2.out 8; have x9_ := blk_cell K2.out 9; have z0_ := blk_cell M2.out 0; have z1_ := blk_cell M2.out 1; have z2_ := blk_cell M2.out 2; have z3_ := blk_cell M2.out 3; have z4_ := blk_cell M2.out 4; have z5_ := blk_cell M2.out 5; have z6_ := blk_cell M2.out 6; have z7_ := blk_cell M2.out 7; have z8_ := blk_cell M2.out 8; have z9_ := blk_cell M2.out 9; clear d) | (go_at_call 55; (with_reducible refine (tv.out _ C2.out).mono ?_); rintro e w2 ⟨rfl, d⟩; have C3 := Aside0.mk (below_then C2.out C2.out.size d); have K3 := Aside0.mk (blk_below K2.out d); have M3 := Aside0.mk (blk_below M2.out d); clear x0_ x1_ x2_ x3_ x4_ x5_ x6_ x7_ x8_ x9_ z0_ z1_ z2_ z3_ z4_ z5_ z6_ z7_ z8_ z9_; have x0_ := blk_cell K3.out 0; have x1_ := blk_cell K3.out 1; have x2_ := blk_cell K3.out 2; have x3_ := blk_cell K3.out 3; have x4_ := blk_cell K3.out 4; have x5_ := blk_cell K3.out 5; have x6_ := blk_cell K3.out 6; have x7_ := blk_cell K3.out 7; have x8_ := blk_cell K3.out 8; have x9_ := blk_cell K3.out 9; have z0_ := blk_cell M3.out 0; have z1_ := blk_cell M3.out 1; have z2_ := blk_cell M3.out 2; have z3_ := blk_cell M3.out 3; have z4_ := blk_cell M3.out 4; have z5_ := blk_cell M3.out 5; have z6_ := blk_cell M3.out 6; have z7_ := blk_cell M3.out 7; have z8_ := blk_cell M3.out 8; have z9_ := blk_cell M3.out 9; clear d))
      go_ret
      exact ⟨rfl, C3.out⟩
    | false =>
      cases z0 with
      | none =>
        cases y0' with
        | none =>
          obtain rfl := hz0
          obtain rfl := hy0
          have x0_ := blk_cell k1 0
          have x1_ := blk_cell k1 1
          have x2_ := blk_cell k1 2
          have x3_ := blk_cell k1 3
          have x4_ := blk_cell k1 4
          have x5_ := blk_cell k1 5
          have x6_ := blk_cell k1 6
          have x7_ := blk_cell k1 7
          have x8_ := blk_cell k1 8
          have x9_ := blk_cell k1 9
          have z0_ := blk_cell m1 0
          have z1_ := blk_cell m1 1
          have z2_ := blk_cell m1 2
          have z3_ := blk_cell m1 3
          have z4_ := blk_cell m1 4
          have z5_ := blk_cell m1 5
          have z6_ := blk_cell m1 6
          have z7_ := blk_cell m1 7
          have z8_ := blk_cell m1 8
          have z9_ := blk_cell m1 9
          clear k1 m1 b2
          go_enter Tryz.func45, Tryz.ntmps45
          go_wp2_with (first | (go_at_call 55; (with_reducible refine (tu.out _ B2.out).mono ?_); rintro e w0 ⟨rfl, d⟩; have C1 := Aside0.mk (below_then B2.out B2.out.size d); have K1 := Aside0.mk (blk_below K0.out d); have M1 := Aside0.mk (blk_below M0.out d); clear x0_ x1_ x2_ x3_ x4_ x5_ x6_ x7_ x8_ x9_ z0_ z1_ z2_ z3_ z4_ z5_ z6_ z7_ z8_ z9_; have x0_ := blk_cell K1.out 0; have x1_ := blk_cell K1.out 1; have x2_ := blk_cell K1.out 2; have x3_ := blk_cell K1.out 3; have x4_ := blk_cell K1.out 4; have x5_ := blk_cell K1.out 5; have x6_ := blk_cell K1.out 6; have x7_ := blk_cell K1.out 7; have x8_ := blk_cell K1.out 8; have x9_ := blk_cell K1.out 9; have z0_ := blk_cell M1.out 0; have z1_ := blk_cell M1.out 1; have z2_ := blk_cell M1.out 2; have z3_ := blk_cell M1.out 3; have z4_ := blk_cell M1.out 4; have z5_ := blk_cell M1.out 5; have z6_ := blk_cell M1.out 6; have z7_ := blk_cell M1.out 7; have z8_ := blk_cell M1.out 8; have z9_ := blk_cell M1.out 9; clear d) | (go_at_call 55; (with_reducible refine (tu.out _ C1.out).mono ?_); rintro e w1 ⟨rfl, d⟩; have C2 := Aside0.mk (below_then C1.out C1.out.size d); have K2 := Aside0.mk (blk_below K1.out d); have M2 := Aside0.mk (blk_below M1.out d); clear x0_ x1_ x2_ x3_ x4_ x5_ x6_ x7_ x8_ x9_ z0_ z1_ z2_ z3_ z4_ z5_ z6_ z7_ z8_ z9_; have x0_ := blk_cell K2.out 0; have x1_ := blk_cell K2.out 1; have x2_ := blk_cell K2.out 2; have x3_ := blk_cell K2.out 3; have x4_ := blk_cell K2.out 4; have x5_ := blk_cell K2.out 5; have x6_ := blk_cell K2.out 6; have x7_ := blk_cell K2.out 7; have x8_ := blk_cell K2.out 8; have x9_ := blk_cell K2.out 9; have z0_ := blk_cell M2.out 0; have z1_ := blk_cell M2.out 1; have z2_ := blk_cell M2.out 2; have z3_ := blk_cell M2.out 3; have z4_ := blk_cell M2.out 4; have z5_ := blk_cell M2.out 5; have z6_ := blk_cell M2.out 6; have z7_ := blk_cell M2.out 7; have z8_ := blk_cell M2.out 8; have z9_ := blk_cell M2.out 9; clear d) | (go_at_call 55; (with_reducible refine (tv.out _ C2.out).mono ?_); rintro e w2 ⟨rfl, d⟩; have C3 := Aside0.mk (below_then C2.out C2.out.size d); have K3 := Aside0.mk (blk_below K2.out d); have M3 := Aside0.mk (blk_below M2.out d); clear x0_ x1_ x2_ x3_ x4_ x5_ x6_ x7_ x8_ x9_ z0_ z1_ z2_ z3_ z4_ z5_ z6_ z7_ z8_ z9_; have x0_ := blk_cell K3.out 0; have x1_ := blk_cell K3.out 1; have x2_ := blk_cell K3.out 2; have x3_ := blk_cell K3.out 3; have x4_ := blk_cell K3.out 4; have x5_ := blk_cell K3.out 5; have x6_ := blk_cell K3.out 6; have x7_ := blk_cell K3.out 7; have x8_ := blk_cell K3.out 8; have x9_ := blk_cell K3.out 9; have z0_ := blk_cell M3.out 0; have z1_ := blk_cell M3.out 1; have z2_ := blk_cell M3.out 2; have z3_ := blk_cell M3.out 3; have z4_ := blk_cell M3.out 4; have z5_ := blk_cell M3.out 5; have z6_ := blk_cell M3.out 6; have z7_ := blk_cell M3.out 7; have z8_ := blk_cell M3.out 8; have z9_ := blk_cell M3.out 9; clear d))
          go_ret
          exact ⟨rfl, C3.out⟩
        | some y =>
          obtain rfl := hz0
          obtain ⟨yp, rfl, hy0⟩ := hy0
          have x0_ := blk_cell k1 0
          have x1_ := blk_cell k1 1
          have x2_ := blk_cell k1 2
          have x3_ := blk_cell k1 3
          have x4_ := blk_cell k1 4
          have x5_ := blk_cell k1 5
          have x6_ := blk_cell k1 6
          have x7_ := blk_cell k1 7
          have x8_ := blk_cell k1 8
          have x9_ := blk_cell k1 9
          have z0_ := blk_cell m1 0
          have z1_ := blk_cell m1 1
          have z2_ := blk_cell m1 2
          have z3_ := blk_cell m1 3
          have z4_ := blk_cell m1 4
          have z5_ := blk_cell m1 5
          have z6_ := blk_cell m1 6
          have z7_ := blk_cell m1 7
          have z8_ := blk_cell m1 8
          have z9_ := blk_cell m1 9
          clear k1 m1 b2
          go_enter Tryz.func45, Tryz.ntmps45
          go_wp2_with (first | (go_at_call 55; (with_reducible refine (tu.out _ B2.out).mono ?_); rintro e w0 ⟨rfl, d⟩; have C1 := Aside0.mk (below_then B2.out B2.out.size d); have K1 := Aside0.mk (blk_below K0.out d); have M1 := Aside0.mk (blk_below M0.out d); clear x0_ x1_ x2_ x3_ x4_ x5_ x6_ x7_ x8_ x9_ z0_ z1_ z2_ z3_ z4_ z5_ z6_ z7_ z8_ z9_; have x0_ := blk_cell K1.out 0; have x1_ := blk_cell K1.out 1; have x2_ := blk_cell K1.out 2; have x3_ := blk_cell K1.out 3; have x4_ := blk_cell K1.out 4; have x5_ := blk_cell K1.out 5; have x6_ := blk_cell K1.out 6; have x7_ := blk_cell K1.out 7; have x8_ := blk_cell K1.out 8; have x9_ := blk_cell K1.out 9; have z0_ := blk_cell M1.out 0; have z1_ := blk_cell M1.out 1; have z2_ := blk_cell M1.out 2; have z3_ := blk_cell M1.out 3; have z4_ := blk_cell M1.out 4; have z5_ := blk_cell M1.out 5; have z6_ := blk_cell M1.out 6; have z7_ := blk_cell M1.out 7; have z8_ := blk_cell M1.out 8; have z9_ := blk_cell M1.out 9; clear d) | (go_at_call 55; (with_reducible refine (tu.out _ C1.out).mono ?_); rintro e w1 ⟨rfl, d⟩; have C2 := Aside0.mk (below_then C1.out C1.out.size d); have K2 := Aside0.mk (blk_below K1.out d); have M2 := Aside0.mk (blk_below M1.out d); clear x0_ x1_ x2_ x3_ x4_ x5_ x6_ x7_ x8_ x9_ z0_ z1_ z2_ z3_ z4_ z5_ z6_ z7_ z8_ z9_; have x0_ := blk_cell K2.out 0; have x1_ := blk_cell K2.out 1; have x2_ := blk_cell K2.out 2; have x3_ := blk_cell K2.out 3; have x4_ := blk_cell K2.out 4; have x5_ := blk_cell K2.out 5; have x6_ := blk_cell K2.out 6; have x7_ := blk_cell K2.out 7; have x8_ := blk_cell K2.out 8; have x9_ := blk_cell K2.out 9; have z0_ := blk_cell M2.out 0; have z1_ := blk_cell M2.out 1; have z2_ := blk_cell M2.out 2; have z3_ := blk_cell M2.out 3; have z4_ := blk_cell M2.out 4; have z5_ := blk_cell M2.out 5; have z6_ := blk_cell M2.out 6; have z7_ := blk_cell M2.out 7; have z8_ := blk_cell M2.out 8; have z9_ := blk_cell M2.out 9; clear d) | (go_at_call 55; (with_reducible refine (tv.out _ C2.out).mono ?_); rintro e w2 ⟨rfl, d⟩; have C3 := Aside0.mk (below_then C2.out C2.out.size d); have K3 := Aside0.mk (blk_below K2.out d); have M3 := Aside0.mk (blk_below M2.out d); clear x0_ x1_ x2_ x3_ x4_ x5_ x6_ x7_ x8_ x9_ z0_ z1_ z2_ z3_ z4_ z5_ z6_ z7_ z8_ z9_; have x0_ := blk_cell K3.out 0; have x1_ := blk_cell K3.out 1; have x2_ := blk_cell K3.out 2; have x3_ := blk_cell K3.out 3; have x4_ := blk_cell K3.out 4; have x5_ := blk_cell K3.out 5; have x6_ := blk_cell K3.out 6; have x7_ := blk_cell K3.out 7; have x8_ := blk_cell K3.out 8; have x9_ := blk_cell K3.out 9; have z0_ := blk_cell M3.out 0; have z1_ := blk_cell M3.out 1; have z2_ := blk_cell M3.out 2; have z3_ := blk_cell M3.out 3; have z4_ := blk_cell M3.out 4; have z5_ := blk_cell M3.out 5; have z6_ := blk_cell M3.out 6; have z7_ := blk_cell M3.out 7; have z8_ := blk_cell M3.out 8; have z9_ := blk_cell M3.out 9; clear d))
          go_ret
          exact ⟨rfl, C3.out⟩
      | some x =>
        cases y0' with
        | none =>
          obtain ⟨zp, rfl, hz0⟩ := hz0
          obtain rfl := hy0
          have x0_ := blk_cell k1 0
          have x1_ := blk_cell k1 1
          have x2_ := blk_cell k1 2
          have x3_ := blk_cell k1 3
          have x4_ := blk_cell k1 4
          have x5_ := blk_cell k1 5
          have x6_ := blk_cell k1 6
          have x7_ := blk_cell k1 7
          have x8_ := blk_cell k1 8
          have x9_ := blk_cell k1 9
          have z0_ := blk_cell m1 0
          have z1_ := blk_cell m1 1
          have z2_ := blk_cell m1 2
          have z3_ := blk_cell m1 3
          have z4_ := blk_cell m1 4
          have z5_ := blk_cell m1 5
          have z6_ := blk_cell m1 6
          have z7_ := blk_cell m1 7
          have z8_ := blk_cell m1 8
          have z9_ := blk_cell m1 9
          clear k1 m1 b2
          go_enter Tryz.func45, Tryz.ntmps45
          go_wp2_with (first | (go_at_call 55; (with_reducible refine (tu.out _ B2.out).mono ?_); rintro e w0 ⟨rfl, d⟩; have C1 := Aside0.mk (below_then B2.out B2.out.size d); have K1 := Aside0.mk (blk_below K0.out d); have M1 := Aside0.mk (blk_below M0.out d); clear x0_ x1_ x2_ x3_ x4_ x5_ x6_ x7_ x8_ x9_ z0_ z1_ z2_ z3_ z4_ z5_ z6_ z7_ z8_ z9_; have x0_ := blk_cell K1.out 0; have x1_ := blk_cell K1.out 1; have x2_ := blk_cell K1.out 2; have x3_ := blk_cell K1.out 3; have x4_ := blk_cell K1.out 4; have x5_ := blk_cell K1.out 5; have x6_ := blk_cell K1.out 6; have x7_ := blk_cell K1.out 7; have x8_ := blk_cell K1.out 8; have x9_ := blk_cell K1.out 9; have z0_ := blk_cell M1.out 0; have z1_ := blk_cell M1.out 1; have z2_ := blk_cell M1.out 2; have z3_ := blk_cell M1.out 3; have z4_ := blk_cell M1.out 4; have z5_ := blk_cell M1.out 5; have z6_ := blk_cell M1.out 6; have z7_ := blk_cell M1.out 7; have z8_ := blk_cell M1.out 8; have z9_ := blk_cell M1.out 9; clear d) | (go_at_call 55; (with_reducible refine (tu.out _ C1.out).mono ?_); rintro e w1 ⟨rfl, d⟩; have C2 := Aside0.mk (below_then C1.out C1.out.size d); have K2 := Aside0.mk (blk_below K1.out d); have M2 := Aside0.mk (blk_below M1.out d); clear x0_ x1_ x2_ x3_ x4_ x5_ x6_ x7_ x8_ x9_ z0_ z1_ z2_ z3_ z4_ z5_ z6_ z7_ z8_ z9_; have x0_ := blk_cell K2.out 0; have x1_ := blk_cell K2.out 1; have x2_ := blk_cell K2.out 2; have x3_ := blk_cell K2.out 3; have x4_ := blk_cell K2.out 4; have x5_ := blk_cell K2.out 5; have x6_ := blk_cell K2.out 6; have x7_ := blk_cell K2.out 7; have x8_ := blk_cell K2.out 8; have x9_ := blk_cell K2.out 9; have z0_ := blk_cell M2.out 0; have z1_ := blk_cell M2.out 1; have z2_ := blk_cell M2.out 2; have z3_ := blk_cell M2.out 3; have z4_ := blk_cell M2.out 4; have z5_ := blk_cell M2.out 5; have z6_ := blk_cell M2.out 6; have z7_ := blk_cell M2.out 7; have z8_ := blk_cell M2.out 8; have z9_ := blk_cell M2.out 9; clear d) | (go_at_call 55; (with_reducible refine (tv.out _ C2.out).mono ?_); rintro e w2 ⟨rfl, d⟩; have C3 := Aside0.mk (below_then C2.out C2.out.size d); have K3 := Aside0.mk (blk_below K2.out d); have M3 := Aside0.mk (blk_below M2.out d); clear x0_ x1_ x2_ x3_ x4_ x5_ x6_ x7_ x8_ x9_ z0_ z1_ z2_ z3_ z4_ z5_ z6_ z7_ z8_ z9_; have x0_ := blk_cell K3.out 0; have x1_ := blk_cell K3.out 1; have x2_ := blk_cell K3.out 2; have x3_ := blk_cell K3.out 3; have x4_ := blk_cell K3.out 4; have x5_ := blk_cell K3.out 5; have x6_ := blk_cell K3.out 6; have x7_ := blk_cell K3.out 7; have x8_ := blk_cell K3.out 8; have x9_ := blk_cell K3.out 9; have z0_ := blk_cell M3.out 0; have z1_ := blk_cell M3.out 1; have z2_ := blk_cell M3.out 2; have z3_ := blk_cell M3.out 3; have z4_ := blk_cell M3.out 4; have z5_ := blk_cell M3.out 5; have z6_ := blk_cell M3.out 6; have z7_ := blk_cell M3.out 7; have z8_ := blk_cell M3.out 8; have z9_ := blk_cell M3.out 9; clear d))
          go_ret
          exact ⟨rfl, C3.out⟩
        | some y =>
          obtain ⟨zp, rfl, hz0⟩ := hz0
          obtain ⟨yp, rfl, hy0⟩ := hy0
          have cm := fun (w' : World) (d : Below w.heap.size w w') => Cmp_calls x y zp yp w' (hz0.below d) (hy0.below d)
          have hx0 : ∀ h : 0 < s0.size, ((s0[0]'h).toNat : Int) = bt s0 0 := bt_at s0 0
          have hx1 : ∀ h : 0 < t0.size, ((t0[0]'h).toNat : Int) = bt t0 0 := bt_at t0 0
          have q0 : (0 < s0.size) = True := eq_true (hs rfl)
          have q1 : (0 < t0.size) = True := eq_true (ht rfl)
          have qi : (0 < (s0.size : Int)) = True := eq_true (by have := hs rfl; omega)
          have qj : (0 < (t0.size : Int)) = True := eq_true (by have := ht rfl; omega)
          clear hs ht
          by_cases g1 : bt t0 0 < bt s0 0
          · rw [show pre2 false false s0 (some x) t0 (some y) = 1 from if_pos g1]
            have x0_ := blk_cell k1 0
            have x1_ := blk_cell k1 1
            have x2_ := blk_cell k1 2
            have x3_ := blk_cell k1 3
            have x4_ := blk_cell k1 4
            have x5_ := blk_cell k1 5
            have x6_ := blk_cell k1 6
            have x7_ := blk_cell k1 7
            have x8_ := blk_cell k1 8
            have x9_ := blk_cell k1 9
            have z0_ := blk_cell m1 0
            have z1_ := blk_cell m1 1
            have z2_ := blk_cell m1 2
            have z3_ := blk_cell m1 3
            have z4_ := blk_cell m1 4
            have z5_ := blk_cell m1 5
            have z6_ := blk_cell m1 6
            have z7_ := blk_cell m1 7
            have z8_ := blk_cell m1 8
            have z9_ := blk_cell m1 9
            clear k1 m1 b2
            go_enter Tryz.func45, Tryz.ntmps45
            go_wp2_with (first | (go_at_call 55; (with_reducible refine (tu.out _ B2.out).mono ?_); rintro e w0 ⟨rfl, d⟩; have C1 := Aside0.mk (below_then B2.out B2.out.size d); have K1 := Aside0.mk (blk_below K0.out d); have M1 := Aside0.mk (blk_below M0.out d); clear x0_ x1_ x2_ x3_ x4_ x5_ x6_ x7_ x8_ x9_ z0_ z1_ z2_ z3_ z4_ z5_ z6_ z7_ z8_ z9_; have x0_ := blk_cell K1.out 0; have x1_ := blk_cell K1.out 1; have x2_ := blk_cell K1.out 2; have x3_ := blk_cell K1.out 3; have x4_ := blk_cell K1.out 4; have x5_ := blk_cell K1.out 5; have x6_ := blk_cell K1.out 6; have x7_ := blk_cell K1.out 7; have x8_ := blk_cell K1.out 8; have x9_ := blk_cell K1.out 9; have z0_ := blk_cell M1.out 0; have z1_ := blk_cell M1.out 1; have z2_ := blk_cell M1.out 2; have z3_ := blk_cell M1.out 3; have z4_ := blk_cell M1.out 4; have z5_ := blk_cell M1.out 5; have z6_ := blk_cell M1.out 6; have z7_ := blk_cell M1.out 7; have z8_ := blk_cell M1.out 8; have z9_ := blk_cell M1.out 9; clear d) | (go_at_call 55; (with_reducible refine (tu.out _ C1.out).mono ?_); rintro e w1 ⟨rfl, d⟩; have C2 := Aside0.mk (below_then C1.out C1.out.size d); have K2 := Aside0.mk (blk_below K1.out d); have M2 := Aside0.mk (blk_below M1.out d); clear x0_ x1_ x2_ x3_ x4_ x5_ x6_ x7_ x8_ x9_ z0_ z1_ z2_ z3_ z4_ z5_ z6_ z7_ z8_ z9_; have x0_ := blk_cell K2.out 0; have x1_ := blk_cell K2.out 1; have x2_ := blk_cell K2.out 2; have x3_ := blk_cell K2.out 3; have x4_ := blk_cell K2.out 4; have x5_ := blk_cell K2.out 5; have x6_ := blk_cell K2.out 6; have x7_ := blk_cell K2.out 7; have x8_ := blk_cell K2.out 8; have x9_ := blk_cell K2.out 9; have z0_ := blk_cell M2.out 0; have z1_ := blk_cell M2.out 1; have z2_ := blk_cell M2.out 2; have z3_ := blk_cell M2.out 3; have z4_ := blk_cell M2.out 4; have z5_ := blk_cell M2.out 5; have z6_ := blk_cell M2.out 6; have z7_ := blk_cell M2.out 7; have z8_ := blk_cell M2.out 8; have z9_ := blk_cell M2.out 9; clear d) | (go_at_call 55; (with_reducible refine (tv.out _ C2.out).mono ?_); rintro e w2 ⟨rfl, d⟩; have C3 := Aside0.mk (below_then C2.out C2.out.size d); have K3 := Aside0.mk (blk_below K2.out d); have M3 := Aside0.mk (blk_below M2.out d); clear x0_ x1_ x2_ x3_ x4_ x5_ x6_ x7_ x8_ x9_ z0_ z1_ z2_ z3_ z4_ z5_ z6_ z7_ z8_ z9_; have x0_ := blk_cell K3.out 0; have x1_ := blk_cell K3.out 1; have x2_ := blk_cell K3.out 2; have x3_ := blk_cell K3.out 3; have x4_ := blk_cell K3.out 4; have x5_ := blk_cell K3.out 5; have x6_ := blk_cell K3.out 6; have x7_ := blk_cell K3.out 7; have x8_ := blk_cell K3.out 8; have x9_ := blk_cell K3.out 9; have z0_ := blk_cell M3.out 0; have z1_ := blk_cell M3.out 1; have z2_ := blk_cell M3.out 2; have z3_ := blk_cell M3.out 3; have z4_ := blk_cell M3.out 4; have z5_ := blk_cell M3.out 5; have z6_ := blk_cell M3.out 6; have z7_ := blk_cell M3.out 7; have z8_ := blk_cell M3.out 8; have z9_ := blk_cell M3.out 9; clear d))
            go_ret
            exact ⟨rfl, C3.out⟩
          · by_cases g2 : bt s0 0 < bt t0 0
            · rw [show pre2 false false s0 (some x) t0 (some y) = -1 from (if_neg g1).trans (if_pos g2)]
              have x0_ := blk_cell k1 0
              have x1_ := blk_cell k1 1
              have x2_ := blk_cell k1 2
              have x3_ := blk_cell k1 3
              have x4_ := blk_cell k1 4
              have x5_ := blk_cell k1 5
              have x6_ := blk_cell k1 6
              have x7_ := blk_cell k1 7
              have x8_ := blk_cell k1 8
              have x9_ := blk_cell k1 9
              have z0_ := blk_cell m1 0
              have z1_ := blk_cell m1 1
              have z2_ := blk_cell m1 2
              have z3_ := blk_cell m1 3
              have z4_ := blk_cell m1 4
              have z5_ := blk_cell m1 5
              have z6_ := blk_cell m1 6
              have z7_ := blk_cell m1 7
              have z8_ := blk_cell m1 8
              have z9_ := blk_cell m1 9
              clear k1 m1 b2
              go_enter Tryz.func45, Tryz.ntmps45
              go_wp2_with (first | (go_at_call 55; (with_reducible refine (tu.out _ B2.out).mono ?_); rintro e w0 ⟨rfl, d⟩; have C1 := Aside0.mk (below_then B2.out B2.out.size d); have K1 := Aside0.mk (blk_below K0.out d); have M1 := Aside0.mk (blk_below M0.out d); clear x0_ x1_ x2_ x3_ x4_ x5_ x6_ x7_ x8_ x9_ z0_ z1_ z2_ z3_ z4_ z5_ z6_ z7_ z8_ z9_; have x0_ := blk_cell K1.out 0; have x1_ := blk_cell K1.out 1; have x2_ := blk_cell K1.out 2; have x3_ := blk_cell K1.out 3; have x4_ := blk_cell K1.out 4; have x5_ := blk_cell K1.out 5; have x6_ := blk_cell K1.out 6; have x7_ := blk_cell K1.out 7; have x8_ := blk_cell K1.out 8; have x9_ := blk_cell K1.out 9; have z0_ := blk_cell M1.out 0; have z1_ := blk_cell M1.out 1; have z2_ := blk_cell M1.out 2; have z3_ := blk_cell M1.out 3; have z4_ := blk_cell M1.out 4; have z5_ := blk_cell M1.out 5; have z6_ := blk_cell M1.out 6; have z7_ := blk_cell M1.out 7; have z8_ := blk_cell M1.out 8; have z9_ := blk_cell M1.out 9; clear d) | (go_at_call 55; (with_reducible refine (tu.out _ C1.out).mono ?_); rintro e w1 ⟨rfl, d⟩; have C2 := Aside0.mk (below_then C1.out C1.out.size d); have K2 := Aside0.mk (blk_below K1.out d); have M2 := Aside0.mk (blk_below M1.out d); clear x0_ x1_ x2_ x3_ x4_ x5_ x6_ x7_ x8_ x9_ z0_ z1_ z2_ z3_ z4_ z5_ z6_ z7_ z8_ z9_; have x0_ := blk_cell K2.out 0; have x1_ := blk_cell K2.out 1; have x2_ := blk_cell K2.out 2; have x3_ := blk_cell K2.out 3; have x4_ := blk_cell K2.out 4; have x5_ := blk_cell K2.out 5; have x6_ := blk_cell K2.out 6; have x7_ := blk_cell K2.out 7; have x8_ := blk_cell K2.out 8; have x9_ := blk_cell K2.out 9; have z0_ := blk_cell M2.out 0; have z1_ := blk_cell M2.out 1; have z2_ := blk_cell M2.out 2; have z3_ := blk_cell M2.out 3; have z4_ := blk_cell M2.out 4; have z5_ := blk_cell M2.out 5; have z6_ := blk_cell M2.out 6; have z7_ := blk_cell M2.out 7; have z8_ := blk_cell M2.out 8; have z9_ := blk_cell M2.out 9; clear d) | (go_at_call 55; (with_reducible refine (tv.out _ C2.out).mono ?_); rintro e w2 ⟨rfl, d⟩; have C3 := Aside0.mk (below_then C2.out C2.out.size d); have K3 := Aside0.mk (blk_below K2.out d); have M3 := Aside0.mk (blk_below M2.out d); clear x0_ x1_ x2_ x3_ x4_ x5_ x6_ x7_ x8_ x9_ z0_ z1_ z2_ z3_ z4_ z5_ z6_ z7_ z8_ z9_; have x0_ := blk_cell K3.out 0; have x1_ := blk_cell K3.out 1; have x2_ := blk_cell K3.out 2; have x3_ := blk_cell K3.out 3; have x4_ := blk_cell K3.out 4; have x5_ := blk_cell K3.out 5; have x6_ := blk_cell K3.out 6; have x7_ := blk_cell K3.out 7; have x8_ := blk_cell K3.out 8; have x9_ := blk_cell K3.out 9; have z0_ := blk_cell M3.out 0; have z1_ := blk_cell M3.out 1; have z2_ := blk_cell M3.out 2; have z3_ := blk_cell M3.out 3; have z4_ := blk_cell M3.out 4; have z5_ := blk_cell M3.out 5; have z6_ := blk_cell M3.out 6; have z7_ := blk_cell M3.out 7; have z8_ := blk_cell M3.out 8; have z9_ := blk_cell M3.out 9; clear d))
              go_ret
              exact ⟨rfl, C3.out⟩
            · rw [show pre2 false false s0 (some x) t0 (some y) = cI x y from (if_neg g1).trans (if_neg g2)]
              have x0_ := blk_cell k1 0
              have x1_ := blk_cell k1 1
              have x2_ := blk_cell k1 2
              have x3_ := blk_cell k1 3
              have x4_ := blk_cell k1 4
              have x5_ := blk_cell k1 5
              have x6_ := blk_cell k1 6
              have x7_ := blk_cell k1 7
              have x8_ := blk_cell k1 8
              have x9_ := blk_cell k1 9
              have z0_ := blk_cell m1 0
              have z1_ := blk_cell m1 1
              have z2_ := blk_cell m1 2
              have z3_ := blk_cell m1 3
              have z4_ := blk_cell m1 4
              have z5_ := blk_cell m1 5
              have z6_ := blk_cell m1 6
              have z7_ := blk_cell m1 7
              have z8_ := blk_cell m1 8
              have z9_ := blk_cell m1 9
              clear k1 m1 b2
              go_enter Tryz.func45, Tryz.ntmps45
              go_wp2_with (first | (go_at_call 55; (with_reducible refine (tu.out _ B2.out).mono ?_); rintro e w0 ⟨rfl, d⟩; have C1 := Aside0.mk (below_then B2.out B2.out.size d); have K1 := Aside0.mk (blk_below K0.out d); have M1 := Aside0.mk (blk_below M0.out d); clear x0_ x1_ x2_ x3_ x4_ x5_ x6_ x7_ x8_ x9_ z0_ z1_ z2_ z3_ z4_ z5_ z6_ z7_ z8_ z9_; have x0_ := blk_cell K1.out 0; have x1_ := blk_cell K1.out 1; have x2_ := blk_cell K1.out 2; have x3_ := blk_cell K1.out 3; have x4_ := blk_cell K1.out 4; have x5_ := blk_cell K1.out 5; have x6_ := blk_cell K1.out 6; have x7_ := blk_cell K1.out 7; have x8_ := blk_cell K1.out 8; have x9_ := blk_cell K1.out 9; have z0_ := blk_cell M1.out 0; have z1_ := blk_cell M1.out 1; have z2_ := blk_cell M1.out 2; have z3_ := blk_cell M1.out 3; have z4_ := blk_cell M1.out 4; have z5_ := blk_cell M1.out 5; have z6_ := blk_cell M1.out 6; have z7_ := blk_cell M1.out 7; have z8_ := blk_cell M1.out 8; have z9_ := blk_cell M1.out 9; clear d) | (go_at_call 55; (with_reducible refine (tu.out _ C1.out).mono ?_); rintro e w1 ⟨rfl, d⟩; have C2 := Aside0.mk (below_then C1.out C1.out.size d); have K2 := Aside0.mk (blk_below K1.out d); have M2 := Aside0.mk (blk_below M1.out d); clear x0_ x1_ x2_ x3_ x4_ x5_ x6_ x7_ x8_ x9_ z0_ z1_ z2_ z3_ z4_ z5_ z6_ z7_ z8_ z9_; have x0_ := blk_cell K2.out 0; have x1_ := blk_cell K2.out 1; have x2_ := blk_cell K2.out 2; have x3_ := blk_cell K2.out 3; have x4_ := blk_cell K2.out 4; have x5_ := blk_cell K2.out 5; have x6_ := blk_cell K2.out 6; have x7_ := blk_cell K2.out 7; have x8_ := blk_cell K2.out 8; have x9_ := blk_cell K2.out 9; have z0_ := blk_cell M2.out 0; have z1_ := blk_cell M2.out 1; have z2_ := blk_cell M2.out 2; have z3_ := blk_cell M2.out 3; have z4_ := blk_cell M2.out 4; have z5_ := blk_cell M2.out 5; have z6_ := blk_cell M2.out 6; have z7_ := blk_cell M2.out 7; have z8_ := blk_cell M2.out 8; have z9_ := blk_cell M2.out 9; clear d) | (go_at_call 55; (with_reducible refine (tv.out _ C2.out).mono ?_); rintro e w2 ⟨rfl, d⟩; have C3 := Aside0.mk (below_then C2.out C2.out.size d); have K3 := Aside0.mk (blk_below K2.out d); have M3 := Aside0.mk (blk_below M2.out d); clear x0_ x1_ x2_ x3_ x4_ x5_ x6_ x7_ x8_ x9_ z0_ z1_ z2_ z3_ z4_ z5_ z6_ z7_ z8_ z9_; have x0_ := blk_cell K3.out 0; have x1_ := blk_cell K3.out 1; have x2_ := blk_cell K3.out 2; have x3_ := blk_cell K3.out 3; have x4_ := blk_cell K3.out 4; have x5_ := blk_cell K3.out 5; have x6_ := blk_cell K3.out 6; have x7_ := blk_cell K3.out 7; have x8_ := blk_cell K3.out 8; have x9_ := blk_cell K3.out 9; have z0_ := blk_cell M3.out 0; have z1_ := blk_cell M3.out 1; have z2_ := blk_cell M3.out 2; have z3_ := blk_cell M3.out 3; have z4_ := blk_cell M3.out 4; have z5_ := blk_cell M3.out 5; have z6_ := blk_cell M3.out 6; have z7_ := blk_cell M3.out 7; have z8_ := blk_cell M3.out 8; have z9_ := blk_cell M3.out 9; clear d) | (go_at_call 40; (with_reducible refine (cm _ C3.out).mono ?_); rintro e w9 ⟨rfl, nd, rfl⟩))
              go_ret
              exact ⟨rfl, pw_below_drewN C3.out _⟩
theorem spot_none {w : World} {ad : Addr} {v : Value} (h : w.cell? ad = some v) : ad.spot = none := by
  unfold World.cell? at h
  split at h
  · split at h
    · cases h
    · next hn => simpa using hn
  · cases h
theorem join_nil' (l : List (List UInt8)) : Lib.join l [] = l.flatten := by
  unfold Lib.join List.intercalate
  induction l with
  | nil => rfl
  | cons x r ih =>
    cases r with
    | nil => simp
    | cons y q => simpa using ih

/-- What a list of texts is joined to. -/
def jn (l : List ByteArray) : ByteArray := ⟨(Lib.join (l.map (·.data.toList)) []).toArray⟩
theorem jn_toList (l : List ByteArray) : (jn l).toList = l.flatMap (·.toList) := by
  have e : (fun s : ByteArray => s.toList) = (fun s : ByteArray => s.data.toList) := funext fun s => toList_eq' s
  unfold jn
  rw [toList_eq', join_nil', List.flatMap_def, e]
theorem jn_len (l : List ByteArray) : (Lib.join (l.map (·.data.toList)) []).length = (l.flatMap (·.toList)).length := by
  rw [← jn_toList, toList_eq']
  rfl
theorem join_calls (l : List ByteArray) (n c : Nat) (A : Option Addr) (hn : n = l.length) (h0 : l ≠ []) (w : World) (hr : Kd.C Kd.string w A l.length l) (hc : l.length ≤ c) (hl : l.length ≤ 140737488355328) (hj : (l.flatMap (·.toList)).length ≤ 140737488355328) :
    Calls Tryz.prog 53 #[.slice A n c, .string ⟨#[]⟩] w fun e w' => e = .returned (.string (jn l)) ∧ Below w.heap.size w w' := by
  have hp : 0 < l.length := List.length_pos_iff.2 h0
  obtain ⟨ad, rfl, hcell⟩ := hr.2.2 hp
  obtain ⟨c0, hc0, rfl, hx⟩ := hcell 0 _ (List.getElem?_eq_getElem hp)
  have hz := hx 0 _ rfl
  have hsp := spot_none (show w.cell? ad = some (.string (l[0]'hp)) from hz)
  obtain ⟨bk, o, sp⟩ := ad
  have hsp' : sp = none := hsp
  subst hsp' hn
  refine Tryz.strings_Join bk o c l ⟨#[]⟩ w ?_ (World.block_lt_of_cell? w _ hz) hl hc (by show (Lib.join (l.map (·.data.toList)) []).length ≤ _; rw [jn_len]; exact hj)
  intro j x hj'
  obtain ⟨c1, _, rfl, hx1⟩ := hcell j x hj'
  have := hx1 0 _ rfl
  have ea : (⟨bk, o, none⟩ : Addr).add (j * 1 + 0) = ⟨bk, o + j, none⟩ := by
    rw [Nat.mul_one, Nat.add_zero]
    unfold Addr.add
    split <;> simp_all
  rw [← ea]
  exact this
theorem cmp_calls (a b : ByteArray) (w : World) : Calls Tryz.prog 41 #[.string a, .string b] w fun e w' => e = .returned (.int .i64 (cS a.toList b.toList)) ∧ w' = w := by
  have := Tryz.strings_Compare a b w
  rwa [compare_cS, ← toList_eq', ← toList_eq'] at this
theorem lgS {w a w1 : World} {g h : Nat} {x y : Value} (hS : a.cell? ⟨g, 9, none⟩ = some x ∧ a.cell? ⟨h, 9, none⟩ = some y ∧ Below w.heap.size w a) (d : Below a.heap.size a w1) : w1.cell? ⟨g, 9, none⟩ = some x ∧ w1.cell? ⟨h, 9, none⟩ = some y ∧ Below w.heap.size w w1 :=
  ⟨pw_cell_below d hS.1, pw_cell_below d hS.2.1, below_then hS.2.2 hS.2.2.size d⟩

set_option maxRecDepth 100000 in
set_option maxHeartbeats 4000000 in
theorem legG (x0 x1 : Value) (s0 s1 s2 : ByteArray) (o0 o1 o2 : Option Addr) (LA : Option Addr) (ln lc : Nat) (GA : Option Addr) (gn gc : Nat) (y0 y1 : Value) (t0 t1 t2 : ByteArray) (p0 p1 p2 : Option Addr) (MA : Option Addr) (mn mc : Nat) (HA : Option Addr) (hn hc : Nat) (gl hl : List ByteArray) (w : World) (eg : gn = gl.length) (eh : hn = hl.length) (hG : Kd.C Kd.string w GA gl.length gl) (hH : Kd.C Kd.string w HA hl.length hl) (hgc : gl.length ≤ gc) (hhc : hl.length ≤ hc) (mg : gl.length ≤ 1000000 ∧ (gl.flatMap (·.toList)).length ≤ 140737488355328) (mh : hl.length ≤ 1000000 ∧ (hl.flatMap (·.toList)).length ≤ 140737488355328) :
    Calls Tryz.prog 42 #[.agg #[x0, x1, .string s0, .pointer o0, .string s1, .pointer o1, .string s2, .pointer o2, .slice LA ln lc, .slice GA gn gc], .agg #[y0, y1, .string t0, .pointer p0, .string t1, .pointer p1, .string t2, .pointer p2, .slice MA mn mc, .slice HA hn hc]] w fun e w' => e = .returned (.int .i64 (legC gl hl)) ∧ Below w.heap.size w w' := by
  obtain ⟨k1, m1, b2⟩ := w2a (Obj.cells #[x0, x1, .string s0, .pointer o0, .string s1, .pointer o1, .string s2, .pointer o2, .slice LA ln lc, .slice GA gn gc] 51) (Obj.cells #[y0, y1, .string t0, .pointer p0, .string t1, .pointer p1, .string t2, .pointer p2, .slice MA mn mc, .slice HA hn hc] 51) w
  have B2 := Aside0.mk b2
  have jg := Aside0.mk (fun (h0 : gl ≠ []) (w' : World) (d : Below w.heap.size w w') => join_calls gl gn gc GA eg h0 w' (Kd.C_below hG d) hgc (by have := mg.1; omega) mg.2)
  have jh := Aside0.mk (fun (h0 : hl ≠ []) (w' : World) (d : Below w.heap.size w w') => join_calls hl hn hc HA eh h0 w' (Kd.C_below hH d) hhc (by have := mh.1; omega) mh.2)
  have q9 : ((w.alloc (Obj.cells #[x0, x1, .string s0, .pointer o0, .string s1, .pointer o1, .string s2, .pointer o2, .slice LA ln lc, .slice GA gn gc] 51)).alloc (Obj.cells #[y0, y1, .string t0, .pointer p0, .string t1, .pointer p1, .string t2, .pointer p2, .slice MA mn mc, .slice HA hn hc] 51)).cell? ⟨w.heap.size, 9, none⟩ = some (.slice GA gn gc) := (blk_cell k1 9).trans rfl
  have r9 : ((w.alloc (Obj.cells #[x0, x1, .string s0, .pointer o0, .string s1, .pointer o1, .string s2, .pointer o2, .slice LA ln lc, .slice GA gn gc] 51)).alloc (Obj.cells #[y0, y1, .string t0, .pointer p0, .string t1, .pointer p1, .string t2, .pointer p2, .slice MA mn mc, .slice HA hn hc] 51)).cell? ⟨w.heap.size + 1, 9, none⟩ = some (.slice HA hn hc) := (blk_cell m1 9).trans rfl
  clear hG hH hgc hhc mg mh b2 k1 m1
  by_cases g0 : gl = []
  · have zg : (gn : Int) = 0 := by rw [eg, g0]; rfl
    have ng : ((gn : Int) == 0) = true := by rw [zg]; rfl
    by_cases h0 : hl = []
    · have zh : (hn : Int) = 0 := by rw [eh, h0]; rfl
      have nh : ((hn : Int) == 0) = true := by rw [zh]; rfl
      have R : legC gl hl = 0 := by unfold legC; rw [if_pos g0, if_pos h0]
      rw [R]
      clear R eg eh g0 h0 jg jh
      go_enter Tryz.func42, Tryz.ntmps42
      go_wp2_with fail
      go_ret
      exact ⟨rfl, B2.out⟩
    · have zh : ¬ (hn : Int) = 0 := fun e => h0 (List.eq_nil_of_length_eq_zero (by omega))
      have nh : ((hn : Int) == 0) = false := beq_eq_false_iff_ne.2 zh
      have R : legC gl hl = 1 := by unfold legC; rw [if_pos g0, if_neg h0]
      rw [R]
      clear R eg eh g0 h0 jg jh
      go_enter Tryz.func42, Tryz.ntmps42
      go_wp2_with fail
      go_ret
      exact ⟨rfl, B2.out⟩
  · have zg : ¬ (gn : Int) = 0 := fun e => g0 (List.eq_nil_of_length_eq_zero (by omega))
    have ng : ((gn : Int) == 0) = false := beq_eq_false_iff_ne.2 zg
    by_cases h0 : hl = []
    · have zh : (hn : Int) = 0 := by rw [eh, h0]; rfl
      have nh : ((hn : Int) == 0) = true := by rw [zh]; rfl
      have R : legC gl hl = -1 := by unfold legC; rw [if_neg g0, if_pos h0]
      rw [R]
      clear R eg eh g0 h0 jg jh
      go_enter Tryz.func42, Tryz.ntmps42
      go_wp2_with fail
      go_ret
      exact ⟨rfl, B2.out⟩
    · have zh : ¬ (hn : Int) = 0 := fun e => h0 (List.eq_nil_of_length_eq_zero (by omega))
      have nh : ((hn : Int) == 0) = false := beq_eq_false_iff_ne.2 zh
      have R : legC gl hl = cS (jn gl).toList (jn hl).toList := by unfold legC; rw [if_neg g0, if_neg h0, jn_toList, jn_toList]
      rw [R]
      have jg' := Aside0.mk (jg.out g0)
      have jh' := Aside0.mk (jh.out h0)
      have sc := Aside0.mk (fun w' : World => cmp_calls (jn gl) (jn hl) w')
      clear R eg eh g0 h0 jg jh
      generalize jn gl = a at *
      generalize jn hl = b at *
      go_enter Tryz.func42, Tryz.ntmps42
      go_wp2_with fail
      obtain ⟨W, eW⟩ : ∃ W, W = ((w.alloc (Obj.cells #[x0, x1, .string s0, .pointer o0, .string s1, .pointer o1, .string s2, .pointer o2, .slice LA ln lc, .slice GA gn gc] 51)).alloc (Obj.cells #[y0, y1, .string t0, .pointer p0, .string t1, .pointer p1, .string t2, .pointer p2, .slice MA mn mc, .slice HA hn hc] 51)) := ⟨_, rfl⟩
      have BW := B2.out
      rw [← eW] at q9 r9 BW ⊢
      have HD : W.drew.cell? ⟨w.heap.size, 9, none⟩ = some (.slice GA gn gc) ∧ W.drew.cell? ⟨w.heap.size + 1, 9, none⟩ = some (.slice HA hn hc) ∧ Below w.heap.size w W.drew := lgS (w := w) ⟨q9, r9, BW⟩ (Below.drew (Below.refl _ _))
      clear q9 r9 BW eW B2
      go_region_held3 (fun w' => w'.cell? ⟨w.heap.size, 9, none⟩ = some (.slice GA gn gc) ∧ w'.cell? ⟨w.heap.size + 1, 9, none⟩ = some (.slice HA hn hc) ∧ Below w.heap.size w w') (first | (with_reducible assumption) | (with_reducible exact lgS (by with_reducible assumption) (by with_reducible assumption))) (first | (go_at_call 53; (with_reducible refine (jg'.out _ ?hz).mono ?_); (case hz => first | exact HD.2.2 | (with_reducible assumption)); rintro e w1 ⟨rfl, d1⟩; have HE := lgS HD d1) | (go_at_call 53; (with_reducible refine (jh'.out _ ?hz).mono ?_); (case hz => exact HE.2.2); rintro e w2 ⟨rfl, d2⟩; have HF := lgS HE d2) | (go_at_call 41; (with_reducible refine (sc.out _).mono ?_); rintro e w3 ⟨rfl, rfl⟩))
      go_wp2_with fail
      go_ret
      exact ⟨rfl, HF.2.2⟩
set_option maxRecDepth 100000 in
set_option maxHeartbeats 4000000 in
theorem epoG (x1 : Value) (s0 s1 s2 : ByteArray) (o0 o1 o2 : Option Addr) (LA : Option Addr) (ln lc : Nat) (GA : Option Addr) (gn gc : Nat) (y1 : Value) (t0 t1 t2 : ByteArray) (p0 p1 p2 : Option Addr) (MA : Option Addr) (mn mc : Nat) (HA : Option Addr) (hn hc : Nat) (p q : Nat) (z y : Int) (w : World) (hp : IsBig w p z) (hq : IsBig w q y) :
    Calls Tryz.prog 43 #[.agg #[.pointer (some ⟨p, 0, none⟩), x1, .string s0, .pointer o0, .string s1, .pointer o1, .string s2, .pointer o2, .slice LA ln lc, .slice GA gn gc], .agg #[.pointer (some ⟨q, 0, none⟩), y1, .string t0, .pointer p0, .string t1, .pointer p1, .string t2, .pointer p2, .slice MA mn mc, .slice HA hn hc]] w fun e w' => e = .returned (.int .i64 (cI z y)) ∧ Below w.heap.size w w' := by
  obtain ⟨k1, m1, b2⟩ := w2a (Obj.cells #[.pointer (some ⟨p, 0, none⟩), x1, .string s0, .pointer o0, .string s1, .pointer o1, .string s2, .pointer o2, .slice LA ln lc, .slice GA gn gc] 51) (Obj.cells #[.pointer (some ⟨q, 0, none⟩), y1, .string t0, .pointer p0, .string t1, .pointer p1, .string t2, .pointer p2, .slice MA mn mc, .slice HA hn hc] 51) w
  have B2 := Aside0.mk b2
  have q0 := blk_cell k1 0
  have r0 := blk_cell m1 0
  have cm := fun (w' : World) (d : Below w.heap.size w w') => Cmp_calls z y p q w' (hp.below d) (hq.below d)
  clear b2 k1 m1
  go_enter Tryz.func43, Tryz.ntmps43
  go_wp2_with (first | (go_at_call 40; (with_reducible refine (cm _ B2.out).mono ?_); rintro e w1 ⟨rfl, nd, rfl⟩))
  go_ret
  exact ⟨rfl, pw_below_drewN B2.out _⟩
set_option maxRecDepth 100000 in
set_option maxHeartbeats 4000000 in
theorem relG (x0 : Value) (s0 s1 s2 : ByteArray) (o0 o1 o2 : Option Addr) (LA : Option Addr) (ln lc : Nat) (GA : Option Addr) (gn gc : Nat) (y0 : Value) (t0 t1 t2 : ByteArray) (p0 p1 p2 : Option Addr) (MA : Option Addr) (mn mc : Nat) (HA : Option Addr) (hn hc : Nat) (R0 R1 : Option Addr) (d0 d1 n0 n1 : Nat) (l0 l1 : List Int) (w : World) (e0 : n0 = l0.length) (e1 : n1 = l1.length) (h0 : BRow w R0 l0) (h1 : BRow w R1 l1) (hl0 : l0.length ≤ 1000000) (hl1 : l1.length ≤ 1000000) :
    Calls Tryz.prog 44 #[.agg #[x0, .slice R0 n0 d0, .string s0, .pointer o0, .string s1, .pointer o1, .string s2, .pointer o2, .slice LA ln lc, .slice GA gn gc], .agg #[y0, .slice R1 n1 d1, .string t0, .pointer p0, .string t1, .pointer p1, .string t2, .pointer p2, .slice MA mn mc, .slice HA hn hc]] w fun e w' => e = .returned (.int .i64 (padL cI 0 l0 l1)) ∧ Below w.heap.size w w' := by
  subst e0 e1
  obtain ⟨k1, m1, b2⟩ := w2a (Obj.cells #[x0, .slice R0 l0.length d0, .string s0, .pointer o0, .string s1, .pointer o1, .string s2, .pointer o2, .slice LA ln lc, .slice GA gn gc] 51) (Obj.cells #[y0, .slice R1 l1.length d1, .string t0, .pointer p0, .string t1, .pointer p1, .string t2, .pointer p2, .slice MA mn mc, .slice HA hn hc] 51) w
  have B2 := Aside0.mk b2
  have q1 : ((w.alloc (Obj.cells #[x0, .slice R0 l0.length d0, .string s0, .pointer o0, .string s1, .pointer o1, .string s2, .pointer o2, .slice LA ln lc, .slice GA gn gc] 51)).alloc (Obj.cells #[y0, .slice R1 l1.length d1, .string t0, .pointer p0, .string t1, .pointer p1, .string t2, .pointer p2, .slice MA mn mc, .slice HA hn hc] 51)).cell? ⟨w.heap.size, 1, none⟩ = some (.slice R0 l0.length d0) := (blk_cell k1 1).trans rfl
  have r1 := blk_cell m1 1
  have Q1 := Aside0.mk q1
  have cm := fun (w' : World) (d : Below w.heap.size w w') (hc : w'.cell? ⟨w.heap.size, 1, none⟩ = some (.slice R0 l0.length d0)) => compCmp_calls w.heap.size 1 R0 R1 d0 d1 l0 l1 w' hc (h0.below d) (h1.below d) hl0 hl1
  clear b2 k1 m1
  go_enter Tryz.func44, Tryz.ntmps44
  go_wp2_with (first | (go_at_call 54; (with_reducible refine (cm _ B2.out Q1.out).mono ?_); rintro e w1 ⟨rfl, d1⟩; have D1 := Aside0.mk (below_then B2.out B2.out.size d1); clear d1))
  go_ret
  exact ⟨rfl, D1.out⟩
end Go.Proofs.YtfmndbmlpfgbnaaGreatDoor.Giv
/- Contracts by hand: two versions of PyPI with all their parts compared. Printed by wip/tool/genpj.py. -/
namespace Go.Proofs.YtfmndbmlpfgbnaaGreatDoor.Giv
open Go.RowKit Go.Proofs.YtfmndbmlpfgbnaaGreatDoorW.PrintWords Go.Proofs.YtfmndbmlpfgbnaaGreatDoorW.PrintLast Go.Proofs.YtfmndbmlpfgbnaaGreatDoor.Pk Go.Proofs.YtfmndbmlpfgbnaaGreatDoor.Ord Go.Proofs.YtfmndbmlpfgbnaaGreatDoor.QN
set_option linter.unusedVariables false
set_option linter.unusedSimpArgs false

/-- The first that is not 0. -/
def thn (a b : Int) : Int := if a = 0 then b else a

set_option maxRecDepth 100000 in
set_option maxHeartbeats 8000000 in
theorem verG (x0 x1 : Value) (s0 s1 s2 : ByteArray) (o0 o1 o2 : Option Addr) (LA : Option Addr) (ln lc : Nat) (GA : Option Addr) (gn gc : Nat) (y0 y1 : Value) (t0 t1 t2 : ByteArray) (p0 p1 p2 : Option Addr) (MA : Option Addr) (mn mc : Nat) (HA : Option Addr) (hn hc : Nat) (r0 r1 r2 r3 r4 r5 r6 : Int) (w : World) (c0 : ∀ w' : World, Below w.heap.size w w' → Calls Tryz.prog 42 #[.agg #[x0, x1, .string s0, .pointer o0, .string s1, .pointer o1, .string s2, .pointer o2, .slice LA ln lc, .slice GA gn gc], .agg #[y0, y1, .string t0, .pointer p0, .string t1, .pointer p1, .string t2, .pointer p2, .slice MA mn mc, .slice HA hn hc]] w' fun e w2 => e = .returned (.int .i64 r0) ∧ Below w'.heap.size w' w2) (c1 : ∀ w' : World, Below w.heap.size w w' → Calls Tryz.prog 43 #[.agg #[x0, x1, .string s0, .pointer o0, .string s1, .pointer o1, .string s2, .pointer o2, .slice LA ln lc, .slice GA gn gc], .agg #[y0, y1, .string t0, .pointer p0, .string t1, .pointer p1, .string t2, .pointer p2, .slice MA mn mc, .slice HA hn hc]] w' fun e w2 => e = .returned (.int .i64 r1) ∧ Below w'.heap.size w' w2) (c2 : ∀ w' : World, Below w.heap.size w w' → Calls Tryz.prog 44 #[.agg #[x0, x1, .string s0, .pointer o0, .string s1, .pointer o1, .string s2, .pointer o2, .slice LA ln lc, .slice GA gn gc], .agg #[y0, y1, .string t0, .pointer p0, .string t1, .pointer p1, .string t2, .pointer p2, .slice MA mn mc, .slice HA hn hc]] w' fun e w2 => e = .returned (.int .i64 r2) ∧ Below w'.heap.size w' w2) (c3 : ∀ w' : World, Below w.heap.size w w' → Calls Tryz.prog 45 #[.agg #[x0, x1, .string s0, .pointer o0, .string s1, .pointer o1, .string s2, .pointer o2, .slice LA ln lc, .slice GA gn gc], .agg #[y0, y1, .string t0, .pointer p0, .string t1, .pointer p1, .string t2, .pointer p2, .slice MA mn mc, .slice HA hn hc]] w' fun e w2 => e = .returned (.int .i64 r3) ∧ Below w'.heap.size w' w2) (c4 : ∀ w' : World, Below w.heap.size w w' → Calls Tryz.prog 46 #[.agg #[x0, x1, .string s0, .pointer o0, .string s1, .pointer o1, .string s2, .pointer o2, .slice LA ln lc, .slice GA gn gc], .agg #[y0, y1, .string t0, .pointer p0, .string t1, .pointer p1, .string t2, .pointer p2, .slice MA mn mc, .slice HA hn hc]] w' fun e w2 => e = .returned (.int .i64 r4) ∧ Below w'.heap.size w' w2) (c5 : ∀ w' : World, Below w.heap.size w w' → Calls Tryz.prog 47 #[.agg #[x0, x1, .string s0, .pointer o0, .string s1, .pointer o1, .string s2, .pointer o2, .slice LA ln lc, .slice GA gn gc], .agg #[y0, y1, .string t0, .pointer p0, .string t1, .pointer p1, .string t2, .pointer p2, .slice MA mn mc, .slice HA hn hc]] w' fun e w2 => e = .returned (.int .i64 r5) ∧ Below w'.heap.size w' w2) (c6 : ∀ w' : World, Below w.heap.size w w' → Calls Tryz.prog 33 #[.agg #[x0, x1, .string s0, .pointer o0, .string s1, .pointer o1, .string s2, .pointer o2, .slice LA ln lc, .slice GA gn gc], .agg #[y0, y1, .string t0, .pointer p0, .string t1, .pointer p1, .string t2, .pointer p2, .slice MA mn mc, .slice HA hn hc]] w' fun e w2 => e = .returned (.int .i64 r6) ∧ Below w'.heap.size w' w2) :
    Calls Tryz.prog 34 #[.agg #[x0, x1, .string s0, .pointer o0, .string s1, .pointer o1, .string s2, .pointer o2, .slice LA ln lc, .slice GA gn gc], .agg #[y0, y1, .string t0, .pointer p0, .string t1, .pointer p1, .string t2, .pointer p2, .slice MA mn mc, .slice HA hn hc]] w fun e w' => e = .returned (.int .i64 (thn r0 (thn r1 (thn r2 (thn r3 (thn r4 (thn r5 r6))))))) ∧ Below w.heap.size w w' := by
  obtain ⟨k1, m1, b2⟩ := w2a (Obj.cells #[x0, x1, .string s0, .pointer o0, .string s1, .pointer o1, .string s2, .pointer o2, .slice LA ln lc, .slice GA gn gc] 51) (Obj.cells #[y0, y1, .string t0, .pointer p0, .string t1, .pointer p1, .string t2, .pointer p2, .slice MA mn mc, .slice HA hn hc] 51) w
  have B2 := Aside0.mk b2
  have K0 := Aside0.mk k1
  have M0 := Aside0.mk m1
  have a0 := Aside0.mk c0
  have a1 := Aside0.mk c1
  have a2 := Aside0.mk c2
  have a3 := Aside0.mk c3
  have a4 := Aside0.mk c4
  have a5 := Aside0.mk c5
  have a6 := Aside0.mk c6
  clear c0 c1 c2 c3 c4 c5 c6
  by_cases z0 : r0 = 0
  · subst z0
    rw [show (thn 0 (thn r1 (thn r2 (thn r3 (thn r4 (thn r5 r6)))))) = (thn r1 (thn r2 (thn r3 (thn r4 (thn r5 r6))))) from if_pos rfl]
    by_cases z1 : r1 = 0
    · subst z1
      rw [show (thn 0 (thn r2 (thn r3 (thn r4 (thn r5 r6))))) = (thn r2 (thn r3 (thn r4 (thn r5 r6)))) from if_pos rfl]
      by_cases z2 : r2 = 0
      · subst z2
        rw [show (thn 0 (thn r3 (thn r4 (thn r5 r6)))) = (thn r3 (thn r4 (thn r5 r6))) from if_pos rfl]
        by_cases z3 : r3 = 0
        · subst z3
          rw [show (thn 0 (thn r4 (thn r5 r6))) = (thn r4 (thn r5 r6)) from if_pos rfl]
          by_cases z4 : r4 = 0
          · subst z4
            rw [show (thn 0 (thn r5 r6)) = (thn r5 r6) from if_pos rfl]
            by_cases z5 : r5 = 0
            · subst z5
              rw [show (thn 0 r6) = r6 from if_pos rfl]
              by_cases z6 : r6 = 0
              · subst z6
                have x0_ := blk_cell k1 0
                have x1_ := blk_cell k1 1
                have x2_ := blk_cell k1 2
                have x3_ := blk_cell k1 3
                have x4_ := blk_cell k1 4
                have x5_ := blk_cell k1 5
                have x6_ := blk_cell k1 6
                have x7_ := blk_cell k1 7
                have x8_ := blk_cell k1 8
                have x9_ := blk_cell k1 9
                have z0_ := blk_cell m1 0
                have z1_ := blk_cell m1 1
                have z2_ := blk_cell m1 2
                have z3_ := blk_cell m1 3
                have z4_ := blk_cell m1 4
                have z5_ := blk_cell m1 5
                have z6_ := blk_cell m1 6
                have z7_ := blk_cell m1 7
                have z8_ := blk_cell m1 8
                have z9_ := blk_cell m1 9
                clear k1 m1 b2
                go_enter Tryz.func34, Tryz.ntmps34
                go_wp2_with (first | (go_at_call 42; (with_reducible refine (a0.out _ B2.out).mono ?_); rintro e w0 ⟨rfl, d⟩; have C1 := Aside0.mk (below_then B2.out B2.out.size d); have K1 := Aside0.mk (blk_below K0.out d); have M1 := Aside0.mk (blk_below M0.out d); clear x0_ x1_ x2_ x3_ x4_ x5_ x6_ x7_ x8_ x9_ z0_ z1_ z2_ z3_ z4_ z5_ z6_ z7_ z8_ z9_; have x0_ := blk_cell K1.out 0; have x1_ := blk_cell K1.out 1; have x2_ := blk_cell K1.out 2; have x3_ := blk_cell K1.out 3; have x4_ := blk_cell K1.out 4; have x5_ := blk_cell K1.out 5; have x6_ := blk_cell K1.out 6; have x7_ := blk_cell K1.out 7; have x8_ := blk_cell K1.out 8; have x9_ := blk_cell K1.out 9; have z0_ := blk_cell M1.out 0; have z1_ := blk_cell M1.out 1; have z2_ := blk_cell M1.out 2; have z3_ := blk_cell M1.out 3; have z4_ := blk_cell M1.out 4; have z5_ := blk_cell M1.out 5; have z6_ := blk_cell M1.out 6; have z7_ := blk_cell M1.out 7; have z8_ := blk_cell M1.out 8; have z9_ := blk_cell M1.out 9; clear d) | (go_at_call 43; (with_reducible refine (a1.out _ C1.out).mono ?_); rintro e w1 ⟨rfl, d⟩; have C2 := Aside0.mk (below_then C1.out C1.out.size d); have K2 := Aside0.mk (blk_below K1.out d); have M2 := Aside0.mk (blk_below M1.out d); clear x0_ x1_ x2_ x3_ x4_ x5_ x6_ x7_ x8_ x9_ z0_ z1_ z2_ z3_ z4_ z5_ z6_ z7_ z8_ z9_; have x0_ := blk_cell K2.out 0; have x1_ := blk_cell K2.out 1; have x2_ := blk_cell K2.out 2; have x3_ := blk_cell K2.out 3; have x4_ := blk_cell K2.out 4; have x5_ := blk_cell K2.out 5; have x6_ := blk_cell K2.out 6; have x7_ := blk_cell K2.out 7; have x8_ := blk_cell K2.out 8; have x9_ := blk_cell K2.out 9; have z0_ := blk_cell M2.out 0; have z1_ := blk_cell M2.out 1; have z2_ := blk_cell M2.out 2; have z3_ := blk_cell M2.out 3; have z4_ := blk_cell M2.out 4; have z5_ := blk_cell M2.out 5; have z6_ := blk_cell M2.out 6; have z7_ := blk_cell M2.out 7; have z8_ := blk_cell M2.out 8; have z9_ := blk_cell M2.out 9; clear d) | (go_at_call 44; (with_reducible refine (a2.out _ C2.out).mono ?_); rintro e w2 ⟨rfl, d⟩; have C3 := Aside0.mk (below_then C2.out C2.out.size d); have K3 := Aside0.mk (blk_below K2.out d); have M3 := Aside0.mk (blk_below M2.out d); clear x0_ x1_ x2_ x3_ x4_ x5_ x6_ x7_ x8_ x9_ z0_ z1_ z2_ z3_ z4_ z5_ z6_ z7_ z8_ z9_; have x0_ := blk_cell K3.out 0; have x1_ := blk_cell K3.out 1; have x2_ := blk_cell K3.out 2; have x3_ := blk_cell K3.out 3; have x4_ := blk_cell K3.out 4; have x5_ := blk_cell K3.out 5; have x6_ := blk_cell K3.out 6; have x7_ := blk_cell K3.out 7; have x8_ := blk_cell K3.out 8; have x9_ := blk_cell K3.out 9; have z0_ := blk_cell M3.out 0; have z1_ := blk_cell M3.out 1; have z2_ := blk_cell M3.out 2; have z3_ := blk_cell M3.out 3; have z4_ := blk_cell M3.out 4; have z5_ := blk_cell M3.out 5; have z6_ := blk_cell M3.out 6; have z7_ := blk_cell M3.out 7; have z8_ := blk_cell M3.out 8; have z9_ := blk_cell M3.out 9; clear d) | (go_at_call 45; (with_reducible refine (a3.out _ C3.out).mono ?_); rintro e w3 ⟨rfl, d⟩; have C4 := Aside0.mk (below_then C3.out C3.out.size d); have K4 := Aside0.mk (blk_below K3.out d); have M4 := Aside0.mk (blk_below M3.out d); clear x0_ x1_ x2_ x3_ x4_ x5_ x6_ x7_ x8_ x9_ z0_ z1_ z2_ z3_ z4_ z5_ z6_ z7_ z8_ z9_; have x0_ := blk_cell K4.out 0; have x1_ := blk_cell K4.out 1; have x2_ := blk_cell K4.out 2; have x3_ := blk_cell K4.out 3; have x4_ := blk_cell K4.out 4; have x5_ := blk_cell K4.out 5; have x6_ := blk_cell K4.out 6; have x7_ := blk_cell K4.out 7; have x8_ := blk_cell K4.out 8; have x9_ := blk_cell K4.out 9; have z0_ := blk_cell M4.out 0; have z1_ := blk_cell M4.out 1; have z2_ := blk_cell M4.out 2; have z3_ := blk_cell M4.out 3; have z4_ := blk_cell M4.out 4; have z5_ := blk_cell M4.out 5; have z6_ := blk_cell M4.out 6; have z7_ := blk_cell M4.out 7; have z8_ := blk_cell M4.out 8; have z9_ := blk_cell M4.out 9; clear d) | (go_at_call 46; (with_reducible refine (a4.out _ C4.out).mono ?_); rintro e w4 ⟨rfl, d⟩; have C5 := Aside0.mk (below_then C4.out C4.out.size d); have K5 := Aside0.mk (blk_below K4.out d); have M5 := Aside0.mk (blk_below M4.out d); clear x0_ x1_ x2_ x3_ x4_ x5_ x6_ x7_ x8_ x9_ z0_ z1_ z2_ z3_ z4_ z5_ z6_ z7_ z8_ z9_; have x0_ := blk_cell K5.out 0; have x1_ := blk_cell K5.out 1; have x2_ := blk_cell K5.out 2; have x3_ := blk_cell K5.out 3; have x4_ := blk_cell K5.out 4; have x5_ := blk_cell K5.out 5; have x6_ := blk_cell K5.out 6; have x7_ := blk_cell K5.out 7; have x8_ := blk_cell K5.out 8; have x9_ := blk_cell K5.out 9; have z0_ := blk_cell M5.out 0; have z1_ := blk_cell M5.out 1; have z2_ := blk_cell M5.out 2; have z3_ := blk_cell M5.out 3; have z4_ := blk_cell M5.out 4; have z5_ := blk_cell M5.out 5; have z6_ := blk_cell M5.out 6; have z7_ := blk_cell M5.out 7; have z8_ := blk_cell M5.out 8; have z9_ := blk_cell M5.out 9; clear d) | (go_at_call 47; (with_reducible refine (a5.out _ C5.out).mono ?_); rintro e w5 ⟨rfl, d⟩; have C6 := Aside0.mk (below_then C5.out C5.out.size d); have K6 := Aside0.mk (blk_below K5.out d); have M6 := Aside0.mk (blk_below M5.out d); clear x0_ x1_ x2_ x3_ x4_ x5_ x6_ x7_ x8_ x9_ z0_ z1_ z2_ z3_ z4_ z5_ z6_ z7_ z8_ z9_; have x0_ := blk_cell K6.out 0; have x1_ := blk_cell K6.out 1; have x2_ := blk_cell K6.out 2; have x3_ := blk_cell K6.out 3; have x4_ := blk_cell K6.out 4; have x5_ := blk_cell K6.out 5; have x6_ := blk_cell K6.out 6; have x7_ := blk_cell K6.out 7; have x8_ := blk_cell K6.out 8; have x9_ := blk_cell K6.out 9; have z0_ := blk_cell M6.out 0; have z1_ := blk_cell M6.out 1; have z2_ := blk_cell M6.out 2; have z3_ := blk_cell M6.out 3; have z4_ := blk_cell M6.out 4; have z5_ := blk_cell M6.out 5; have z6_ := blk_cell M6.out 6; have z7_ := blk_cell M6.out 7; have z8_ := blk_cell M6.out 8; have z9_ := blk_cell M6.out 9; clear d) | (go_at_call 33; (with_reducible refine (a6.out _ C6.out).mono ?_); rintro e w6 ⟨rfl, d⟩; have C7 := Aside0.mk (below_then C6.out C6.out.size d); have K7 := Aside0.mk (blk_below K6.out d); have M7 := Aside0.mk (blk_below M6.out d); clear x0_ x1_ x2_ x3_ x4_ x5_ x6_ x7_ x8_ x9_ z0_ z1_ z2_ z3_ z4_ z5_ z6_ z7_ z8_ z9_; have x0_ := blk_cell K7.out 0; have x1_ := blk_cell K7.out 1; have x2_ := blk_cell K7.out 2; have x3_ := blk_cell K7.out 3; have x4_ := blk_cell K7.out 4; have x5_ := blk_cell K7.out 5; have x6_ := blk_cell K7.out 6; have x7_ := blk_cell K7.out 7; have x8_ := blk_cell K7.out 8; have x9_ := blk_cell K7.out 9; have z0_ := blk_cell M7.out 0; have z1_ := blk_cell M7.out 1; have z2_ := blk_cell M7.out 2; have z3_ := blk_cell M7.out 3; have z4_ := blk_cell M7.out 4; have z5_ := blk_cell M7.out 5; have z6_ := blk_cell M7.out 6; have z7_ := blk_cell M7.out 7; have z8_ := blk_cell M7.out 8; have z9_ := blk_cell M7.out 9; clear d))
                go_ret
                exact ⟨rfl, C7.out⟩
              · have nz : (r6 == 0) = false := beq_eq_false_iff_ne.2 z6
                have x0_ := blk_cell k1 0
                have x1_ := blk_cell k1 1
                have x2_ := blk_cell k1 2
                have x3_ := blk_cell k1 3
                have x4_ := blk_cell k1 4
                have x5_ := blk_cell k1 5
                have x6_ := blk_cell k1 6
                have x7_ := blk_cell k1 7
                have x8_ := blk_cell k1 8
                have x9_ := blk_cell k1 9
                have z0_ := blk_cell m1 0
                have z1_ := blk_cell m1 1
                have z2_ := blk_cell m1 2
                have z3_ := blk_cell m1 3
                have z4_ := blk_cell m1 4
                have z5_ := blk_cell m1 5
                have z6_ := blk_cell m1 6
                have z7_ := blk_cell m1 7
                have z8_ := blk_cell m1 8
                have z9_ := blk_cell m1 9
                clear k1 m1 b2
                go_enter Tryz.func34, Tryz.ntmps34
                go_wp2_with (first | (go_at_call 42; (with_reducible refine (a0.out _ B2.out).mono ?_); rintro e w0 ⟨rfl, d⟩; have C1 := Aside0.mk (below_then B2.out B2.out.size d); have K1 := Aside0.mk (blk_below K0.out d); have M1 := Aside0.mk (blk_below M0.out d); clear x0_ x1_ x2_ x3_ x4_ x5_ x6_ x7_ x8_ x9_ z0_ z1_ z2_ z3_ z4_ z5_ z6_ z7_ z8_ z9_; have x0_ := blk_cell K1.out 0; have x1_ := blk_cell K1.out 1; have x2_ := blk_cell K1.out 2; have x3_ := blk_cell K1.out 3; have x4_ := blk_cell K1.out 4; have x5_ := blk_cell K1.out 5; have x6_ := blk_cell K1.out 6; have x7_ := blk_cell K1.out 7; have x8_ := blk_cell K1.out 8; have x9_ := blk_cell K1.out 9; have z0_ := blk_cell M1.out 0; have z1_ := blk_cell M1.out 1; have z2_ := blk_cell M1.out 2; have z3_ := blk_cell M1.out 3; have z4_ := blk_cell M1.out 4; have z5_ := blk_cell M1.out 5; have z6_ := blk_cell M1.out 6; have z7_ := blk_cell M1.out 7; have z8_ := blk_cell M1.out 8; have z9_ := blk_cell M1.out 9; clear d) | (go_at_call 43; (with_reducible refine (a1.out _ C1.out).mono ?_); rintro e w1 ⟨rfl, d⟩; have C2 := Aside0.mk (below_then C1.out C1.out.size d); have K2 := Aside0.mk (blk_below K1.out d); have M2 := Aside0.mk (blk_below M1.out d); clear x0_ x1_ x2_ x3_ x4_ x5_ x6_ x7_ x8_ x9_ z0_ z1_ z2_ z3_ z4_ z5_ z6_ z7_ z8_ z9_; have x0_ := blk_cell K2.out 0; have x1_ := blk_cell K2.out 1; have x2_ := blk_cell K2.out 2; have x3_ := blk_cell K2.out 3; have x4_ := blk_cell K2.out 4; have x5_ := blk_cell K2.out 5; have x6_ := blk_cell K2.out 6; have x7_ := blk_cell K2.out 7; have x8_ := blk_cell K2.out 8; have x9_ := blk_cell K2.out 9; have z0_ := blk_cell M2.out 0; have z1_ := blk_cell M2.out 1; have z2_ := blk_cell M2.out 2; have z3_ := blk_cell M2.out 3; have z4_ := blk_cell M2.out 4; have z5_ := blk_cell M2.out 5; have z6_ := blk_cell M2.out 6; have z7_ := blk_cell M2.out 7; have z8_ := blk_cell M2.out 8; have z9_ := blk_cell M2.out 9; clear d) | (go_at_call 44; (with_reducible refine (a2.out _ C2.out).mono ?_); rintro e w2 ⟨rfl, d⟩; have C3 := Aside0.mk (below_then C2.out C2.out.size d); have K3 := Aside0.mk (blk_below K2.out d); have M3 := Aside0.mk (blk_below M2.out d); clear x0_ x1_ x2_ x3_ x4_ x5_ x6_ x7_ x8_ x9_ z0_ z1_ z2_ z3_ z4_ z5_ z6_ z7_ z8_ z9_; have x0_ := blk_cell K3.out 0; have x1_ := blk_cell K3.out 1; have x2_ := blk_cell K3.out 2; have x3_ := blk_cell K3.out 3; have x4_ := blk_cell K3.out 4; have x5_ := blk_cell K3.out 5; have x6_ := blk_cell K3.out 6; have x7_ := blk_cell K3.out 7; have x8_ := blk_cell K3.out 8; have x9_ := blk_cell K3.out 9; have z0_ := blk_cell M3.out 0; have z1_ := blk_cell M3.out 1; have z2_ := blk_cell M3.out 2; have z3_ := blk_cell M3.out 3; have z4_ := blk_cell M3.out 4; have z5_ := blk_cell M3.out 5; have z6_ := blk_cell M3.out 6; have z7_ := blk_cell M3.out 7; have z8_ := blk_cell M3.out 8; have z9_ := blk_cell M3.out 9; clear d) | (go_at_call 45; (with_reducible refine (a3.out _ C3.out).mono ?_); rintro e w3 ⟨rfl, d⟩; have C4 := Aside0.mk (below_then C3.out C3.out.size d); have K4 := Aside0.mk (blk_below K3.out d); have M4 := Aside0.mk (blk_below M3.out d); clear x0_ x1_ x2_ x3_ x4_ x5_ x6_ x7_ x8_ x9_ z0_ z1_ z2_ z3_ z4_ z5_ z6_ z7_ z8_ z9_; have x0_ := blk_cell K4.out 0; have x1_ := blk_cell K4.out 1; have x2_ := blk_cell K4.out 2; have x3_ := blk_cell K4.out 3; have x4_ := blk_cell K4.out 4; have x5_ := blk_cell K4.out 5; have x6_ := blk_cell K4.out 6; have x7_ := blk_cell K4.out 7; have x8_ := blk_cell K4.out 8; have x9_ := blk_cell K4.out 9; have z0_ := blk_cell M4.out 0; have z1_ := blk_cell M4.out 1; have z2_ := blk_cell M4.out 2; have z3_ := blk_cell M4.out 3; have z4_ := blk_cell M4.out 4; have z5_ := blk_cell M4.out 5; have z6_ := blk_cell M4.out 6; have z7_ := blk_cell M4.out 7; have z8_ := blk_cell M4.out 8; have z9_ := blk_cell M4.out 9; clear d) | (go_at_call 46; (with_reducible refine (a4.out _ C4.out).mono ?_); rintro e w4 ⟨rfl, d⟩; have C5 := Aside0.mk (below_then C4.out C4.out.size d); have K5 := Aside0.mk (blk_below K4.out d); have M5 := Aside0.mk (blk_below M4.out d); clear x0_ x1_ x2_ x3_ x4_ x5_ x6_ x7_ x8_ x9_ z0_ z1_ z2_ z3_ z4_ z5_ z6_ z7_ z8_ z9_; have x0_ := blk_cell K5.out 0; have x1_ := blk_cell K5.out 1; have x2_ := blk_cell K5.out 2; have x3_ := blk_cell K5.out 3; have x4_ := blk_cell K5.out 4; have x5_ := blk_cell K5.out 5; have x6_ := blk_cell K5.out 6; have x7_ := blk_cell K5.out 7; have x8_ := blk_cell K5.out 8; have x9_ := blk_cell K5.out 9; have z0_ := blk_cell M5.out 0; have z1_ := blk_cell M5.out 1; have z2_ := blk_cell M5.out 2; have z3_ := blk_cell M5.out 3; have z4_ := blk_cell M5.out 4; have z5_ := blk_cell M5.out 5; have z6_ := blk_cell M5.out 6; have z7_ := blk_cell M5.out 7; have z8_ := blk_cell M5.out 8; have z9_ := blk_cell M5.out 9; clear d) | (go_at_call 47; (with_reducible refine (a5.out _ C5.out).mono ?_); rintro e w5 ⟨rfl, d⟩; have C6 := Aside0.mk (below_then C5.out C5.out.size d); have K6 := Aside0.mk (blk_below K5.out d); have M6 := Aside0.mk (blk_below M5.out d); clear x0_ x1_ x2_ x3_ x4_ x5_ x6_ x7_ x8_ x9_ z0_ z1_ z2_ z3_ z4_ z5_ z6_ z7_ z8_ z9_; have x0_ := blk_cell K6.out 0; have x1_ := blk_cell K6.out 1; have x2_ := blk_cell K6.out 2; have x3_ := blk_cell K6.out 3; have x4_ := blk_cell K6.out 4; have x5_ := blk_cell K6.out 5; have x6_ := blk_cell K6.out 6; have x7_ := blk_cell K6.out 7; have x8_ := blk_cell K6.out 8; have x9_ := blk_cell K6.out 9; have z0_ := blk_cell M6.out 0; have z1_ := blk_cell M6.out 1; have z2_ := blk_cell M6.out 2; have z3_ := blk_cell M6.out 3; have z4_ := blk_cell M6.out 4; have z5_ := blk_cell M6.out 5; have z6_ := blk_cell M6.out 6; have z7_ := blk_cell M6.out 7; have z8_ := blk_cell M6.out 8; have z9_ := blk_cell M6.out 9; clear d) | (go_at_call 33; (with_reducible refine (a6.out _ C6.out).mono ?_); rintro e w6 ⟨rfl, d⟩; have C7 := Aside0.mk (below_then C6.out C6.out.size d); have K7 := Aside0.mk (blk_below K6.out d); have M7 := Aside0.mk (blk_below M6.out d); clear x0_ x1_ x2_ x3_ x4_ x5_ x6_ x7_ x8_ x9_ z0_ z1_ z2_ z3_ z4_ z5_ z6_ z7_ z8_ z9_; have x0_ := blk_cell K7.out 0; have x1_ := blk_cell K7.out 1; have x2_ := blk_cell K7.out 2; have x3_ := blk_cell K7.out 3; have x4_ := blk_cell K7.out 4; have x5_ := blk_cell K7.out 5; have x6_ := blk_cell K7.out 6; have x7_ := blk_cell K7.out 7; have x8_ := blk_cell K7.out 8; have x9_ := blk_cell K7.out 9; have z0_ := blk_cell M7.out 0; have z1_ := blk_cell M7.out 1; have z2_ := blk_cell M7.out 2; have z3_ := blk_cell M7.out 3; have z4_ := blk_cell M7.out 4; have z5_ := blk_cell M7.out 5; have z6_ := blk_cell M7.out 6; have z7_ := blk_cell M7.out 7; have z8_ := blk_cell M7.out 8; have z9_ := blk_cell M7.out 9; clear d))
                go_ret
                exact ⟨rfl, C7.out⟩
            · rw [show (thn r5 r6) = r5 from if_neg z5]
              have nz : (r5 == 0) = false := beq_eq_false_iff_ne.2 z5
              have x0_ := blk_cell k1 0
              have x1_ := blk_cell k1 1
              have x2_ := blk_cell k1 2
              have x3_ := blk_cell k1 3
              have x4_ := blk_cell k1 4
              have x5_ := blk_cell k1 5
              have x6_ := blk_cell k1 6
              have x7_ := blk_cell k1 7
              have x8_ := blk_cell k1 8
              have x9_ := blk_cell k1 9
              have z0_ := blk_cell m1 0
              have z1_ := blk_cell m1 1
              have z2_ := blk_cell m1 2
              have z3_ := blk_cell m1 3
              have z4_ := blk_cell m1 4
              have z5_ := blk_cell m1 5
              have z6_ := blk_cell m1 6
              have z7_ := blk_cell m1 7
              have z8_ := blk_cell m1 8
              have z9_ := blk_cell m1 9
              clear k1 m1 b2
              go_enter Tryz.func34, Tryz.ntmps34
              go_wp2_with (first | (go_at_call 42; (with_reducible refine (a0.out _ B2.out).mono ?_); rintro e w0 ⟨rfl, d⟩; have C1 := Aside0.mk (below_then B2.out B2.out.size d); have K1 := Aside0.mk (blk_below K0.out d); have M1 := Aside0.mk (blk_below M0.out d); clear x0_ x1_ x2_ x3_ x4_ x5_ x6_ x7_ x8_ x9_ z0_ z1_ z2_ z3_ z4_ z5_ z6_ z7_ z8_ z9_; have x0_ := blk_cell K1.out 0; have x1_ := blk_cell K1.out 1; have x2_ := blk_cell K1.out 2; have x3_ := blk_cell K1.out 3; have x4_ := blk_cell K1.out 4; have x5_ := blk_cell K1.out 5; have x6_ := blk_cell K1.out 6; have x7_ := blk_cell K1.out 7; have x8_ := blk_cell K1.out 8; have x9_ := blk_cell K1.out 9; have z0_ := blk_cell M1.out 0; have z1_ := blk_cell M1.out 1; have z2_ := blk_cell M1.out 2; have z3_ := blk_cell M1.out 3; have z4_ := blk_cell M1.out 4; have z5_ := blk_cell M1.out 5; have z6_ := blk_cell M1.out 6; have z7_ := blk_cell M1.out 7; have z8_ := blk_cell M1.out 8; have z9_ := blk_cell M1.out 9; clear d) | (go_at_call 43; (with_reducible refine (a1.out _ C1.out).mono ?_); rintro e w1 ⟨rfl, d⟩; have C2 := Aside0.mk (below_then C1.out C1.out.size d); have K2 := Aside0.mk (blk_below K1.out d); have M2 := Aside0.mk (blk_below M1.out d); clear x0_ x1_ x2_ x3_ x4_ x5_ x6_ x7_ x8_ x9_ z0_ z1_ z2_ z3_ z4_ z5_ z6_ z7_ z8_ z9_; have x0_ := blk_cell K2.out 0; have x1_ := blk_cell K2.out 1; have x2_ := blk_cell K2.out 2; have x3_ := blk_cell K2.out 3; have x4_ := blk_cell K2.out 4; have x5_ := blk_cell K2.out 5; have x6_ := blk_cell K2.out 6; have x7_ := blk_cell K2.out 7; have x8_ := blk_cell K2.out 8; have x9_ := blk_cell K2.out 9; have z0_ := blk_cell M2.out 0; have z1_ := blk_cell M2.out 1; have z2_ := blk_cell M2.out 2; have z3_ := blk_cell M2.out 3; have z4_ := blk_cell M2.out 4; have z5_ := blk_cell M2.out 5; have z6_ := blk_cell M2.out 6; have z7_ := blk_cell M2.out 7; have z8_ := blk_cell M2.out 8; have z9_ := blk_cell M2.out 9; clear d) | (go_at_call 44; (with_reducible refine (a2.out _ C2.out).mono ?_); rintro e w2 ⟨rfl, d⟩; have C3 := Aside0.mk (below_then C2.out C2.out.size d); have K3 := Aside0.mk (blk_below K2.out d); have M3 := Aside0.mk (blk_below M2.out d); clear x0_ x1_ x2_ x3_ x4_ x5_ x6_ x7_ x8_ x9_ z0_ z1_ z2_ z3_ z4_ z5_ z6_ z7_ z8_ z9_; have x0_ := blk_cell K3.out 0; have x1_ := blk_cell K3.out 1; have x2_ := blk_cell K3.out 2; have x3_ := blk_cell K3.out 3; have x4_ := blk_cell K3.out 4; have x5_ := blk_cell K3.out 5; have x6_ := blk_cell K3.out 6; have x7_ := blk_cell K3.out 7; have x8_ := blk_cell K3.out 8; have x9_ := blk_cell K3.out 9; have z0_ := blk_cell M3.out 0; have z1_ := blk_cell M3.out 1; have z2_ := blk_cell M3.out 2; have z3_ := blk_cell M3.out 3; have z4_ := blk_cell M3.out 4; have z5_ := blk_cell M3.out 5; have z6_ := blk_cell M3.out 6; have z7_ := blk_cell M3.out 7; have z8_ := blk_cell M3.out 8; have z9_ := blk_cell M3.out 9; clear d) | (go_at_call 45; (with_reducible refine (a3.out _ C3.out).mono ?_); rintro e w3 ⟨rfl, d⟩; have C4 := Aside0.mk (below_then C3.out C3.out.size d); have K4 := Aside0.mk (blk_below K3.out d); have M4 := Aside0.mk (blk_below M3.out d); clear x0_ x1_ x2_ x3_ x4_ x5_ x6_ x7_ x8_ x9_ z0_ z1_ z2_ z3_ z4_ z5_ z6_ z7_ z8_ z9_; have x0_ := blk_cell K4.out 0; have x1_ := blk_cell K4.out 1; have x2_ := blk_cell K4.out 2; have x3_ := blk_cell K4.out 3; have x4_ := blk_cell K4.out 4; have x5_ := blk_cell K4.out 5; have x6_ := blk_cell K4.out 6; have x7_ := blk_cell K4.out 7; have x8_ := blk_cell K4.out 8; have x9_ := blk_cell K4.out 9; have z0_ := blk_cell M4.out 0; have z1_ := blk_cell M4.out 1; have z2_ := blk_cell M4.out 2; have z3_ := blk_cell M4.out 3; have z4_ := blk_cell M4.out 4; have z5_ := blk_cell M4.out 5; have z6_ := blk_cell M4.out 6; have z7_ := blk_cell M4.out 7; have z8_ := blk_cell M4.out 8; have z9_ := blk_cell M4.out 9; clear d) | (go_at_call 46; (with_reducible refine (a4.out _ C4.out).mono ?_); rintro e w4 ⟨rfl, d⟩; have C5 := Aside0.mk (below_then C4.out C4.out.size d); have K5 := Aside0.mk (blk_below K4.out d); have M5 := Aside0.mk (blk_below M4.out d); clear x0_ x1_ x2_ x3_ x4_ x5_ x6_ x7_ x8_ x9_ z0_ z1_ z2_ z3_ z4_ z5_ z6_ z7_ z8_ z9_; have x0_ := blk_cell K5.out 0; have x1_ := blk_cell K5.out 1; have x2_ := blk_cell K5.out 2; have x3_ := blk_cell K5.out 3; have x4_ := blk_cell K5.out 4; have x5_ := blk_cell K5.out 5; have x6_ := blk_cell K5.out 6; have x7_ := blk_cell K5.out 7; have x8_ := blk_cell K5.out 8; have x9_ := blk_cell K5.out 9; have z0_ := blk_cell M5.out 0; have z1_ := blk_cell M5.out 1; have z2_ := blk_cell M5.out 2; have z3_ := blk_cell M5.out 3; have z4_ := blk_cell M5.out 4; have z5_ := blk_cell M5.out 5; have z6_ := blk_cell M5.out 6; have z7_ := blk_cell M5.out 7; have z8_ := blk_cell M5.out 8; have z9_ := blk_cell M5.out 9; clear d) | (go_at_call 47; (with_reducible refine (a5.out _ C5.out).mono ?_); rintro e w5 ⟨rfl, d⟩; have C6 := Aside0.mk (below_then C5.out C5.out.size d); have K6 := Aside0.mk (blk_below K5.out d); have M6 := Aside0.mk (blk_below M5.out d); clear x0_ x1_ x2_ x3_ x4_ x5_ x6_ x7_ x8_ x9_ z0_ z1_ z2_ z3_ z4_ z5_ z6_ z7_ z8_ z9_; have x0_ := blk_cell K6.out 0; have x1_ := blk_cell K6.out 1; have x2_ := blk_cell K6.out 2; have x3_ := blk_cell K6.out 3; have x4_ := blk_cell K6.out 4; have x5_ := blk_cell K6.out 5; have x6_ := blk_cell K6.out 6; have x7_ := blk_cell K6.out 7; have x8_ := blk_cell K6.out 8; have x9_ := blk_cell K6.out 9; have z0_ := blk_cell M6.out 0; have z1_ := blk_cell M6.out 1; have z2_ := blk_cell M6.out 2; have z3_ := blk_cell M6.out 3; have z4_ := blk_cell M6.out 4; have z5_ := blk_cell M6.out 5; have z6_ := blk_cell M6.out 6; have z7_ := blk_cell M6.out 7; have z8_ := blk_cell M6.out 8; have z9_ := blk_cell M6.out 9; clear d))
              go_ret
              exact ⟨rfl, C6.out⟩
          · rw [show (thn r4 (thn r5 r6)) = r4 from if_neg z4]
            have nz : (r4 == 0) = false := beq_eq_false_iff_ne.2 z4
            have x0_ := blk_cell k1 0
            have x1_ := blk_cell k1 1
            have x2_ := blk_cell k1 2
            have x3_ := blk_cell k1 3
            have x4_ := blk_cell k1 4
            have x5_ := blk_cell k1 5
            have x6_ := blk_cell k1 6
            have x7_ := blk_cell k1 7
            have x8_ := blk_cell k1 8
            have x9_ := blk_cell k1 9
            have z0_ := blk_cell m1 0
            have z1_ := blk_cell m1 1
            have z2_ := blk_cell m1 2
            have z3_ := blk_cell m1 3
            have z4_ := blk_cell m1 4
            have z5_ := blk_cell m1 5
            have z6_ := blk_cell m1 6
            have z7_ := blk_cell m1 7
            have z8_ := blk_cell m1 8
            have z9_ := blk_cell m1 9
            clear k1 m1 b2
            go_enter Tryz.func34, Tryz.ntmps34
            go_wp2_with (first | (go_at_call 42; (with_reducible refine (a0.out _ B2.out).mono ?_); rintro e w0 ⟨rfl, d⟩; have C1 := Aside0.mk (below_then B2.out B2.out.size d); have K1 := Aside0.mk (blk_below K0.out d); have M1 := Aside0.mk (blk_below M0.out d); clear x0_ x1_ x2_ x3_ x4_ x5_ x6_ x7_ x8_ x9_ z0_ z1_ z2_ z3_ z4_ z5_ z6_ z7_ z8_ z9_; have x0_ := blk_cell K1.out 0; have x1_ := blk_cell K1.out 1; have x2_ := blk_cell K1.out 2; have x3_ := blk_cell K1.out 3; have x4_ := blk_cell K1.out 4; have x5_ := blk_cell K1.out 5; have x6_ := blk_cell K1.out 6; have x7_ := blk_cell K1.out 7; have x8_ := blk_cell K1.out 8; have x9_ := blk_cell K1.out 9; have z0_ := blk_cell M1.out 0; have z1_ := blk_cell M1.out 1; have z2_ := blk_cell M1.out 2; have z3_ := blk_cell M1.out 3; have z4_ := blk_cell M1.out 4; have z5_ := blk_cell M1.out 5; have z6_ := blk_cell M1.out 6; have z7_ := blk_cell M1.out 7; have z8_ := blk_cell M1.out 8; have z9_ := blk_cell M1.out 9; clear d) | (go_at_call 43; (with_reducible refine (a1.out _ C1.out).mono ?_); rintro e w1 ⟨rfl, d⟩; have C2 := Aside0.mk (below_then C1.out C1.out.size d); have K2 := Aside0.mk (blk_below K1.out d); have M2 := Aside0.mk (blk_below M1.out d); clear x0_ x1_ x2_ x3_ x4_ x5_ x6_ x7_ x8_ x9_ z0_ z1_ z2_ z3_ z4_ z5_ z6_ z7_ z8_ z9_; have x0_ := blk_cell K2.out 0; have x1_ := blk_cell K2.out 1; have x2_ := blk_cell K2.out 2; have x3_ := blk_cell K2.out 3; have x4_ := blk_cell K2.out 4; have x5_ := blk_cell K2.out 5; have x6_ := blk_cell K2.out 6; have x7_ := blk_cell K2.out 7; have x8_ := blk_cell K2.out 8; have x9_ := blk_cell K2.out 9; have z0_ := blk_cell M2.out 0; have z1_ := blk_cell M2.out 1; have z2_ := blk_cell M2.out 2; have z3_ := blk_cell M2.out 3; have z4_ := blk_cell M2.out 4; have z5_ := blk_cell M2.out 5; have z6_ := blk_cell M2.out 6; have z7_ := blk_cell M2.out 7; have z8_ := blk_cell M2.out 8; have z9_ := blk_cell M2.out 9; clear d) | (go_at_call 44; (with_reducible refine (a2.out _ C2.out).mono ?_); rintro e w2 ⟨rfl, d⟩; have C3 := Aside0.mk (below_then C2.out C2.out.size d); have K3 := Aside0.mk (blk_below K2.out d); have M3 := Aside0.mk (blk_below M2.out d); clear x0_ x1_ x2_ x3_ x4_ x5_ x6_ x7_ x8_ x9_ z0_ z1_ z2_ z3_ z4_ z5_ z6_ z7_ z8_ z9_; have x0_ := blk_cell K3.out 0; have x1_ := blk_cell K3.out 1; have x2_ := blk_cell K3.out 2; have x3_ := blk_cell K3.out 3; have x4_ := blk_cell K3.out 4; have x5_ := blk_cell K3.out 5; have x6_ := blk_cell K3.out 6; have x7_ := blk_cell K3.out 7; have x8_ := blk_cell K3.out 8; have x9_ := blk_cell K3.out 9; have z0_ := blk_cell M3.out 0; have z1_ := blk_cell M3.out 1; have z2_ := blk_cell M3.out 2; have z3_ := blk_cell M3.out 3; have z4_ := blk_cell M3.out 4; have z5_ := blk_cell M3.out 5; have z6_ := blk_cell M3.out 6; have z7_ := blk_cell M3.out 7; have z8_ := blk_cell M3.out 8; have z9_ := blk_cell M3.out 9; clear d) | (go_at_call 45; (with_reducible refine (a3.out _ C3.out).mono ?_); rintro e w3 ⟨rfl, d⟩; have C4 := Aside0.mk (below_then C3.out C3.out.size d); have K4 := Aside0.mk (blk_below K3.out d); have M4 := Aside0.mk (blk_below M3.out d); clear x0_ x1_ x2_ x3_ x4_ x5_ x6_ x7_ x8_ x9_ z0_ z1_ z2_ z3_ z4_ z5_ z6_ z7_ z8_ z9_; have x0_ := blk_cell K4.out 0; have x1_ := blk_cell K4.out 1; have x2_ := blk_cell K4.out 2; have x3_ := blk_cell K4.out 3; have x4_ := blk_cell K4.out 4; have x5_ := blk_cell K4.out 5; have x6_ := blk_cell K4.out 6; have x7_ := blk_cell K4.out 7; have x8_ := blk_cell K4.out 8; have x9_ := blk_cell K4.out 9; have z0_ := blk_cell M4.out 0; have z1_ := blk_cell M4.out 1; have z2_ := blk_cell M4.out 2; have z3_ := blk_cell M4.out 3; have z4_ := blk_cell M4.out 4; have z5_ := blk_cell M4.out 5; have z6_ := blk_cell M4.out 6; have z7_ := blk_cell M4.out 7; have z8_ := blk_cell M4.out 8; have z9_ := blk_cell M4.out 9; clear d) | (go_at_call 46; (with_reducible refine (a4.out _ C4.out).mono ?_); rintro e w4 ⟨rfl, d⟩; have C5 := Aside0.mk (below_then C4.out C4.out.size d); have K5 := Aside0.mk (blk_below K4.out d); have M5 := Aside0.mk (blk_below M4.out d); clear x0_ x1_ x2_ x3_ x4_ x5_ x6_ x7_ x8_ x9_ z0_ z1_ z2_ z3_ z4_ z5_ z6_ z7_ z8_ z9_; have x0_ := blk_cell K5.out 0; have x1_ := blk_cell K5.out 1; have x2_ := blk_cell K5.out 2; have x3_ := blk_cell K5.out 3; have x4_ := blk_cell K5.out 4; have x5_ := blk_cell K5.out 5; have x6_ := blk_cell K5.out 6; have x7_ := blk_cell K5.out 7; have x8_ := blk_cell K5.out 8; have x9_ := blk_cell K5.out 9; have z0_ := blk_cell M5.out 0; have z1_ := blk_cell M5.out 1; have z2_ := blk_cell M5.out 2; have z3_ := blk_cell M5.out 3; have z4_ := blk_cell M5.out 4; have z5_ := blk_cell M5.out 5; have z6_ := blk_cell M5.out 6; have z7_ := blk_cell M5.out 7; have z8_ := blk_cell M5.out 8; have z9_ := blk_cell M5.out 9; clear d))
            go_ret
            exact ⟨rfl, C5.out⟩
        · rw [show (thn r3 (thn r4 (thn r5 r6))) = r3 from if_neg z3]
          have nz : (r3 == 0) = false := beq_eq_false_iff_ne.2 z3
          have x0_ := blk_cell k1 0
          have x1_ := blk_cell k1 1
          have x2_ := blk_cell k1 2
          have x3_ := blk_cell k1 3
          have x4_ := blk_cell k1 4
          have x5_ := blk_cell k1 5
          have x6_ := blk_cell k1 6
          have x7_ := blk_cell k1 7
          have x8_ := blk_cell k1 8
          have x9_ := blk_cell k1 9
          have z0_ := blk_cell m1 0
          have z1_ := blk_cell m1 1
          have z2_ := blk_cell m1 2
          have z3_ := blk_cell m1 3
          have z4_ := blk_cell m1 4
          have z5_ := blk_cell m1 5
          have z6_ := blk_cell m1 6
          have z7_ := blk_cell m1 7
          have z8_ := blk_cell m1 8
          have z9_ := blk_cell m1 9
          clear k1 m1 b2
          go_enter Tryz.func34, Tryz.ntmps34
          go_wp2_with (first | (go_at_call 42; (with_reducible refine (a0.out _ B2.out).mono ?_); rintro e w0 ⟨rfl, d⟩; have C1 := Aside0.mk (below_then B2.out B2.out.size d); have K1 := Aside0.mk (blk_below K0.out d); have M1 := Aside0.mk (blk_below M0.out d); clear x0_ x1_ x2_ x3_ x4_ x5_ x6_ x7_ x8_ x9_ z0_ z1_ z2_ z3_ z4_ z5_ z6_ z7_ z8_ z9_; have x0_ := blk_cell K1.out 0; have x1_ := blk_cell K1.out 1; have x2_ := blk_cell K1.out 2; have x3_ := blk_cell K1.out 3; have x4_ := blk_cell K1.out 4; have x5_ := blk_cell K1.out 5; have x6_ := blk_cell K1.out 6; have x7_ := blk_cell K1.out 7; have x8_ := blk_cell K1.out 8; have x9_ := blk_cell K1.out 9; have z0_ := blk_cell M1.out 0; have z1_ := blk_cell M1.out 1; have z2_ := blk_cell M1.out 2; have z3_ := blk_cell M1.out 3; have z4_ := blk_cell M1.out 4; have z5_ := blk_cell M1.out 5; have z6_ := blk_cell M1.out 6; have z7_ := blk_cell M1.out 7; have z8_ := blk_cell M1.out 8; have z9_ := blk_cell M1.out 9; clear d) | (go_at_call 43; (with_reducible refine (a1.out _ C1.out).mono ?_); rintro e w1 ⟨rfl, d⟩; have C2 := Aside0.mk (below_then C1.out C1.out.size d); have K2 := Aside0.mk (blk_below K1.out d); have M2 := Aside0.mk (blk_below M1.out d); clear x0_ x1_ x2_ x3_ x4_ x5_ x6_ x7_ x8_ x9_ z0_ z1_ z2_ z3_ z4_ z5_ z6_ z7_ z8_ z9_; have x0_ := blk_cell K2.out 0; have x1_ := blk_cell K2.out 1; have x2_ := blk_cell K2.out 2; have x3_ := blk_cell K2.out 3; have x4_ := blk_cell K2.out 4; have x5_ := blk_cell K2.out 5; have x6_ := blk_cell K2.out 6; have x7_ := blk_cell K2.out 7; have x8_ := blk_cell K2.out 8; have x9_ := blk_cell K2.out 9; have z0_ := blk_cell M2.out 0; have z1_ := blk_cell M2.out 1; have z2_ := blk_cell M2.out 2; have z3_ := blk_cell M2.out 3; have z4_ := blk_cell M2.out 4; have z5_ := blk_cell M2.out 5; have z6_ := blk_cell M2.out 6; have z7_ := blk_cell M2.out 7; have z8_ := blk_cell M2.out 8; have z9_ := blk_cell M2.out 9; clear d) | (go_at_call 44; (with_reducible refine (a2.out _ C2.out).mono ?_); rintro e w2 ⟨rfl, d⟩; have C3 := Aside0.mk (below_then C2.out C2.out.size d); have K3 := Aside0.mk (blk_below K2.out d); have M3 := Aside0.mk (blk_below M2.out d); clear x0_ x1_ x2_ x3_ x4_ x5_ x6_ x7_ x8_ x9_ z0_ z1_ z2_ z3_ z4_ z5_ z6_ z7_ z8_ z9_; have x0_ := blk_cell K3.out 0; have x1_ := blk_cell K3.out 1; have x2_ := blk_cell K3.out 2; have x3_ := blk_cell K3.out 3; have x4_ := blk_cell K3.out 4; have x5_ := blk_cell K3.out 5; have x6_ := blk_cell K3.out 6; have x7_ := blk_cell K3.out 7; have x8_ := blk_cell K3.out 8; have x9_ := blk_cell K3.out 9; have z0_ := blk_cell M3.out 0; have z1_ := blk_cell M3.out 1; have z2_ := blk_cell M3.out 2; have z3_ := blk_cell M3.out 3; have z4_ := blk_cell M3.out 4; have z5_ := blk_cell M3.out 5; have z6_ := blk_cell M3.out 6; have z7_ := blk_cell M3.out 7; have z8_ := blk_cell M3.out 8; have z9_ := blk_cell M3.out 9; clear d) | (go_at_call 45; (with_reducible refine (a3.out _ C3.out).mono ?_); rintro e w3 ⟨rfl, d⟩; have C4 := Aside0.mk (below_then C3.out C3.out.size d); have K4 := Aside0.mk (blk_below K3.out d); have M4 := Aside0.mk (blk_below M3.out d); clear x0_ x1_ x2_ x3_ x4_ x5_ x6_ x7_ x8_ x9_ z0_ z1_ z2_ z3_ z4_ z5_ z6_ z7_ z8_ z9_; have x0_ := blk_cell K4.out 0; have x1_ := blk_cell K4.out 1; have x2_ := blk_cell K4.out 2; have x3_ := blk_cell K4.out 3; have x4_ := blk_cell K4.out 4; have x5_ := blk_cell K4.out 5; have x6_ := blk_cell K4.out 6; have x7_ := blk_cell K4.out 7; have x8_ := blk_cell K4.out 8; have x9_ := blk_cell K4.out 9; have z0_ := blk_cell M4.out 0; have z1_ := blk_cell M4.out 1; have z2_ := blk_cell M4.out 2; have z3_ := blk_cell M4.out 3; have z4_ := blk_cell M4.out 4; have z5_ := blk_cell M4.out 5; have z6_ := blk_cell M4.out 6; have z7_ := blk_cell M4.out 7; have z8_ := blk_cell M4.out 8; have z9_ := blk_cell M4.out 9; clear d))
          go_ret
          exact ⟨rfl, C4.out⟩
      · rw [show (thn r2 (thn r3 (thn r4 (thn r5 r6)))) = r2 from if_neg z2]
        have nz : (r2 == 0) = false := beq_eq_false_iff_ne.2 z2
        have x0_ := blk_cell k1 0
        have x1_ := blk_cell k1 1
        have x2_ := blk_cell k1 2
        have x3_ := blk_cell k1 3
        have x4_ := blk_cell k1 4
        have x5_ := blk_cell k1 5
        have x6_ := blk_cell k1 6
        have x7_ := blk_cell k1 7
        have x8_ := blk_cell k1 8
        have x9_ := blk_cell k1 9
        have z0_ := blk_cell m1 0
        have z1_ := blk_cell m1 1
        have z2_ := blk_cell m1 2
        have z3_ := blk_cell m1 3
        have z4_ := blk_cell m1 4
        have z5_ := blk_cell m1 5
        have z6_ := blk_cell m1 6
        have z7_ := blk_cell m1 7
        have z8_ := blk_cell m1 8
        have z9_ := blk_cell m1 9
        clear k1 m1 b2
        go_enter Tryz.func34, Tryz.ntmps34
        go_wp2_with (first | (go_at_call 42; (with_reducible refine (a0.out _ B2.out).mono ?_); rintro e w0 ⟨rfl, d⟩; have C1 := Aside0.mk (below_then B2.out B2.out.size d); have K1 := Aside0.mk (blk_below K0.out d); have M1 := Aside0.mk (blk_below M0.out d); clear x0_ x1_ x2_ x3_ x4_ x5_ x6_ x7_ x8_ x9_ z0_ z1_ z2_ z3_ z4_ z5_ z6_ z7_ z8_ z9_; have x0_ := blk_cell K1.out 0; have x1_ := blk_cell K1.out 1; have x2_ := blk_cell K1.out 2; have x3_ := blk_cell K1.out 3; have x4_ := blk_cell K1.out 4; have x5_ := blk_cell K1.out 5; have x6_ := blk_cell K1.out 6; have x7_ := blk_cell K1.out 7; have x8_ := blk_cell K1.out 8; have x9_ := blk_cell K1.out 9; have z0_ := blk_cell M1.out 0; have z1_ := blk_cell M1.out 1; have z2_ := blk_cell M1.out 2; have z3_ := blk_cell M1.out 3; have z4_ := blk_cell M1.out 4; have z5_ := blk_cell M1.out 5; have z6_ := blk_cell M1.out 6; have z7_ := blk_cell M1.out 7; have z8_ := blk_cell M1.out 8; have z9_ := blk_cell M1.out 9; clear d) | (go_at_call 43; (with_reducible refine (a1.out _ C1.out).mono ?_); rintro e w1 ⟨rfl, d⟩; have C2 := Aside0.mk (below_then C1.out C1.out.size d); have K2 := Aside0.mk (blk_below K1.out d); have M2 := Aside0.mk (blk_below M1.out d); clear x0_ x1_ x2_ x3_ x4_ x5_ x6_ x7_ x8_ x9_ z0_ z1_ z2_ z3_ z4_ z5_ z6_ z7_ z8_ z9_; have x0_ := blk_cell K2.out 0; have x1_ := blk_cell K2.out 1; have x2_ := blk_cell K2.out 2; have x3_ := blk_cell K2.out 3; have x4_ := blk_cell K2.out 4; have x5_ := blk_cell K2.out 5; have x6_ := blk_cell K2.out 6; have x7_ := blk_cell K2.out 7; have x8_ := blk_cell K2.out 8; have x9_ := blk_cell K2.out 9; have z0_ := blk_cell M2.out 0; have z1_ := blk_cell M2.out 1; have z2_ := blk_cell M2.out 2; have z3_ := blk_cell M2.out 3; have z4_ := blk_cell M2.out 4; have z5_ := blk_cell M2.out 5; have z6_ := blk_cell M2.out 6; have z7_ := blk_cell M2.out 7; have z8_ := blk_cell M2.out 8; have z9_ := blk_cell M2.out 9; clear d) | (go_at_call 44; (with_reducible refine (a2.out _ C2.out).mono ?_); rintro e w2 ⟨rfl, d⟩; have C3 := Aside0.mk (below_then C2.out C2.out.size d); have K3 := Aside0.mk (blk_below K2.out d); have M3 := Aside0.mk (blk_below M2.out d); clear x0_ x1_ x2_ x3_ x4_ x5_ x6_ x7_ x8_ x9_ z0_ z1_ z2_ z3_ z4_ z5_ z6_ z7_ z8_ z9_; have x0_ := blk_cell K3.out 0; have x1_ := blk_cell K3.out 1; have x2_ := blk_cell K3.out 2; have x3_ := blk_cell K3.out 3; have x4_ := blk_cell K3.out 4; have x5_ := blk_cell K3.out 5; have x6_ := blk_cell K3.out 6; have x7_ := blk_cell K3.out 7; have x8_ := blk_cell K3.out 8; have x9_ := blk_cell K3.out 9; have z0_ := blk_cell M3.out 0; have z1_ := blk_cell M3.out 1; have z2_ := blk_cell M3.out 2; have z3_ := blk_cell M3.out 3; have z4_ := blk_cell M3.out 4; have z5_ := blk_cell M3.out 5; have z6_ := blk_cell M3.out 6; have z7_ := blk_cell M3.out 7; have z8_ := blk_cell M3.out 8; have z9_ := blk_cell M3.out 9; clear d))
        go_ret
        exact ⟨rfl, C3.out⟩
    · rw [show (thn r1 (thn r2 (thn r3 (thn r4 (thn r5 r6))))) = r1 from if_neg z1]
      have nz : (r1 == 0) = false := beq_eq_false_iff_ne.2 z1
      have x0_ := blk_cell k1 0
      have x1_ := blk_cell k1 1
      have x2_ := blk_cell k1 2
      have x3_ := blk_cell k1 3
      have x4_ := blk_cell k1 4
      have x5_ := blk_cell k1 5
      have x6_ := blk_cell k1 6
      have x7_ := blk_cell k1 7
      have x8_ := blk_cell k1 8
      have x9_ := blk_cell k1 9
      have z0_ := blk_cell m1 0
      have z1_ := blk_cell m1 1
      have z2_ := blk_cell m1 2
      have z3_ := blk_cell m1 3
      have z4_ := blk_cell m1 4
      have z5_ := blk_cell m1 5
      have z6_ := blk_cell m1 6
      have z7_ := blk_cell m1 7
      have z8_ := blk_cell m1 8
      have z9_ := blk_cell m1 9
      clear k1 m1 b2
      go_enter Tryz.func34, Tryz.ntmps34
      go_wp2_with (first | (go_at_call 42; (with_reducible refine (a0.out _ B2.out).mono ?_); rintro e w0 ⟨rfl, d⟩; have C1 := Aside0.mk (below_then B2.out B2.out.size d); have K1 := Aside0.mk (blk_below K0.out d); have M1 := Aside0.mk (blk_below M0.out d); clear x0_ x1_ x2_ x3_ x4_ x5_ x6_ x7_ x8_ x9_ z0_ z1_ z2_ z3_ z4_ z5_ z6_ z7_ z8_ z9_; have x0_ := blk_cell K1.out 0; have x1_ := blk_cell K1.out 1; have x2_ := blk_cell K1.out 2; have x3_ := blk_cell K1.out 3; have x4_ := blk_cell K1.out 4; have x5_ := blk_cell K1.out 5; have x6_ := blk_cell K1.out 6; have x7_ := blk_cell K1.out 7; have x8_ := blk_cell K1.out 8; have x9_ := blk_cell K1.out 9; have z0_ := blk_cell M1.out 0; have z1_ := blk_cell M1.out 1; have z2_ := blk_cell M1.out 2; have z3_ := blk_cell M1.out 3; have z4_ := blk_cell M1.out 4; have z5_ := blk_cell M1.out 5; have z6_ := blk_cell M1.out 6; have z7_ := blk_cell M1.out 7; have z8_ := blk_cell M1.out 8; have z9_ := blk_cell M1.out 9; clear d) | (go_at_call 43; (with_reducible refine (a1.out _ C1.out).mono ?_); rintro e w1 ⟨rfl, d⟩; have C2 := Aside0.mk (below_then C1.out C1.out.size d); have K2 := Aside0.mk (blk_below K1.out d); have M2 := Aside0.mk (blk_below M1.out d); clear x0_ x1_ x2_ x3_ x4_ x5_ x6_ x7_ x8_ x9_ z0_ z1_ z2_ z3_ z4_ z5_ z6_ z7_ z8_ z9_; have x0_ := blk_cell K2.out 0; have x1_ := blk_cell K2.out 1; have x2_ := blk_cell K2.out 2; have x3_ := blk_cell K2.out 3; have x4_ := blk_cell K2.out 4; have x5_ := blk_cell K2.out 5; have x6_ := blk_cell K2.out 6; have x7_ := blk_cell K2.out 7; have x8_ := blk_cell K2.out 8; have x9_ := blk_cell K2.out 9; have z0_ := blk_cell M2.out 0; have z1_ := blk_cell M2.out 1; have z2_ := blk_cell M2.out 2; have z3_ := blk_cell M2.out 3; have z4_ := blk_cell M2.out 4; have z5_ := blk_cell M2.out 5; have z6_ := blk_cell M2.out 6; have z7_ := blk_cell M2.out 7; have z8_ := blk_cell M2.out 8; have z9_ := blk_cell M2.out 9; clear d))
      go_ret
      exact ⟨rfl, C2.out⟩
  · rw [show (thn r0 (thn r1 (thn r2 (thn r3 (thn r4 (thn r5 r6)))))) = r0 from if_neg z0]
    have nz : (r0 == 0) = false := beq_eq_false_iff_ne.2 z0
    have x0_ := blk_cell k1 0
    have x1_ := blk_cell k1 1
    have x2_ := blk_cell k1 2
    have x3_ := blk_cell k1 3
    have x4_ := blk_cell k1 4
    have x5_ := blk_cell k1 5
    have x6_ := blk_cell k1 6
    have x7_ := blk_cell k1 7
    have x8_ := blk_cell k1 8
    have x9_ := blk_cell k1 9
    have z0_ := blk_cell m1 0
    have z1_ := blk_cell m1 1
    have z2_ := blk_cell m1 2
    have z3_ := blk_cell m1 3
    have z4_ := blk_cell m1 4
    have z5_ := blk_cell m1 5
    have z6_ := blk_cell m1 6
    have z7_ := blk_cell m1 7
    have z8_ := blk_cell m1 8
    have z9_ := blk_cell m1 9
    clear k1 m1 b2
    go_enter Tryz.func34, Tryz.ntmps34
    go_wp2_with (first | (go_at_call 42; (with_reducible refine (a0.out _ B2.out).mono ?_); rintro e w0 ⟨rfl, d⟩; have C1 := Aside0.mk (below_then B2.out B2.out.size d); have K1 := Aside0.mk (blk_below K0.out d); have M1 := Aside0.mk (blk_below M0.out d); clear x0_ x1_ x2_ x3_ x4_ x5_ x6_ x7_ x8_ x9_ z0_ z1_ z2_ z3_ z4_ z5_ z6_ z7_ z8_ z9_; have x0_ := blk_cell K1.out 0; have x1_ := blk_cell K1.out 1; have x2_ := blk_cell K1.out 2; have x3_ := blk_cell K1.out 3; have x4_ := blk_cell K1.out 4; have x5_ := blk_cell K1.out 5; have x6_ := blk_cell K1.out 6; have x7_ := blk_cell K1.out 7; have x8_ := blk_cell K1.out 8; have x9_ := blk_cell K1.out 9; have z0_ := blk_cell M1.out 0; have z1_ := blk_cell M1.out 1; have z2_ := blk_cell M1.out 2; have z3_ := blk_cell M1.out 3; have z4_ := blk_cell M1.out 4; have z5_ := blk_cell M1.out 5; have z6_ := blk_cell M1.out 6; have z7_ := blk_cell M1.out 7; have z8_ := blk_cell M1.out 8; have z9_ := blk_cell M1.out 9; clear d))
    go_ret
    exact ⟨rfl, C1.out⟩
set_option maxRecDepth 100000 in
set_option maxHeartbeats 4000000 in
theorem cmpG (x0 x1 : Value) (s0 s1 s2 : ByteArray) (o0 o1 o2 : Option Addr) (LA : Option Addr) (ln lc : Nat) (GA : Option Addr) (gn gc : Nat) (y0 y1 : Value) (t0 t1 t2 : ByteArray) (p0 p1 p2 : Option Addr) (MA : Option Addr) (mn mc : Nat) (HA : Option Addr) (hn hc : Nat) (r : Int) (w : World) (c : ∀ w' : World, Below w.heap.size w w' → Calls Tryz.prog 34 #[.agg #[x0, x1, .string s0, .pointer o0, .string s1, .pointer o1, .string s2, .pointer o2, .slice LA ln lc, .slice GA gn gc], .agg #[y0, y1, .string t0, .pointer p0, .string t1, .pointer p1, .string t2, .pointer p2, .slice MA mn mc, .slice HA hn hc]] w' fun e w2 => e = .returned (.int .i64 r) ∧ Below w'.heap.size w' w2) :
    Calls Tryz.prog 27 #[.agg #[x0, x1, .string s0, .pointer o0, .string s1, .pointer o1, .string s2, .pointer o2, .slice LA ln lc, .slice GA gn gc], .agg #[y0, y1, .string t0, .pointer p0, .string t1, .pointer p1, .string t2, .pointer p2, .slice MA mn mc, .slice HA hn hc]] w fun e w' => e = .returned (.int .i64 r) ∧ Below w.heap.size w w' := by
  obtain ⟨k1, m1, b2⟩ := w2a (Obj.cells #[x0, x1, .string s0, .pointer o0, .string s1, .pointer o1, .string s2, .pointer o2, .slice LA ln lc, .slice GA gn gc] 51) (Obj.cells #[y0, y1, .string t0, .pointer p0, .string t1, .pointer p1, .string t2, .pointer p2, .slice MA mn mc, .slice HA hn hc] 51) w
  have B2 := Aside0.mk b2
  have a0 := Aside0.mk c
  clear c
  have x0_ := blk_cell k1 0
  have x1_ := blk_cell k1 1
  have x2_ := blk_cell k1 2
  have x3_ := blk_cell k1 3
  have x4_ := blk_cell k1 4
  have x5_ := blk_cell k1 5
  have x6_ := blk_cell k1 6
  have x7_ := blk_cell k1 7
  have x8_ := blk_cell k1 8
  have x9_ := blk_cell k1 9
  have z0_ := blk_cell m1 0
  have z1_ := blk_cell m1 1
  have z2_ := blk_cell m1 2
  have z3_ := blk_cell m1 3
  have z4_ := blk_cell m1 4
  have z5_ := blk_cell m1 5
  have z6_ := blk_cell m1 6
  have z7_ := blk_cell m1 7
  have z8_ := blk_cell m1 8
  have z9_ := blk_cell m1 9
  clear k1 m1 b2
  go_enter Tryz.func27, Tryz.ntmps27
  go_wp2_with (first | (go_at_call 34; (with_reducible refine (a0.out _ B2.out).mono ?_); rintro e w1 ⟨rfl, d⟩; have C1 := Aside0.mk (below_then B2.out B2.out.size d); clear d))
  go_ret
  exact ⟨rfl, C1.out⟩
set_option maxRecDepth 100000 in
set_option maxHeartbeats 4000000 in
theorem zzcG (x0 x1 : Value) (s0 s1 s2 : ByteArray) (o0 o1 o2 : Option Addr) (LA : Option Addr) (ln lc : Nat) (GA : Option Addr) (gn gc : Nat) (y0 y1 : Value) (t0 t1 t2 : ByteArray) (p0 p1 p2 : Option Addr) (MA : Option Addr) (mn mc : Nat) (HA : Option Addr) (hn hc : Nat) (r : Int) (w : World) (c : ∀ w' : World, Below w.heap.size w w' → Calls Tryz.prog 27 #[.agg #[x0, x1, .string s0, .pointer o0, .string s1, .pointer o1, .string s2, .pointer o2, .slice LA ln lc, .slice GA gn gc], .agg #[y0, y1, .string t0, .pointer p0, .string t1, .pointer p1, .string t2, .pointer p2, .slice MA mn mc, .slice HA hn hc]] w' fun e w2 => e = .returned (.int .i64 r) ∧ Below w'.heap.size w' w2) :
    Calls Tryz.prog 19 #[.agg #[x0, x1, .string s0, .pointer o0, .string s1, .pointer o1, .string s2, .pointer o2, .slice LA ln lc, .slice GA gn gc], .agg #[y0, y1, .string t0, .pointer p0, .string t1, .pointer p1, .string t2, .pointer p2, .slice MA mn mc, .slice HA hn hc]] w fun e w' => e = .returned (.int .i64 r) ∧ Below w.heap.size w w' := by
  obtain ⟨k1, m1, b2⟩ := w2a (Obj.cells #[x0, x1, .string s0, .pointer o0, .string s1, .pointer o1, .string s2, .pointer o2, .slice LA ln lc, .slice GA gn gc] 51) (Obj.cells #[y0, y1, .string t0, .pointer p0, .string t1, .pointer p1, .string t2, .pointer p2, .slice MA mn mc, .slice HA hn hc] 51) w
  have B2 := Aside0.mk b2
  have a0 := Aside0.mk c
  clear c
  have x0_ := blk_cell k1 0
  have x1_ := blk_cell k1 1
  have x2_ := blk_cell k1 2
  have x3_ := blk_cell k1 3
  have x4_ := blk_cell k1 4
  have x5_ := blk_cell k1 5
  have x6_ := blk_cell k1 6
  have x7_ := blk_cell k1 7
  have x8_ := blk_cell k1 8
  have x9_ := blk_cell k1 9
  have z0_ := blk_cell m1 0
  have z1_ := blk_cell m1 1
  have z2_ := blk_cell m1 2
  have z3_ := blk_cell m1 3
  have z4_ := blk_cell m1 4
  have z5_ := blk_cell m1 5
  have z6_ := blk_cell m1 6
  have z7_ := blk_cell m1 7
  have z8_ := blk_cell m1 8
  have z9_ := blk_cell m1 9
  clear k1 m1 b2
  go_enter Tryz.func19, Tryz.ntmps19
  go_wp2_with (first | (go_at_call 27; (with_reducible refine (a0.out _ B2.out).mono ?_); rintro e w1 ⟨rfl, d⟩; have C1 := Aside0.mk (below_then B2.out B2.out.size d); clear d))
  go_ret
  exact ⟨rfl, C1.out⟩
end Go.Proofs.YtfmndbmlpfgbnaaGreatDoor.Giv
