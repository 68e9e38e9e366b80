/- Contract by hand: plain numbers as pointers to numbers (zzBigs).
   Contract by hand: versions of PyPI made of a release and a local part (ZZPyPIVersion).
   Contract by hand: versions of PyPI made of a release and a local part (impl.pypi).
   Contracts by hand: local versions of PyPI compared, from the statements' side.
   Contracts by hand: versions of PyPI that differ in their releases compared. -/
import Derived.Test.YtchbfjjeodnocaaDoorZJ
import Derived.Test.YtchbfjjeodnocaaDoorQNx1
import Derived.Test.YtchbfjjeodnocaaDoorGivLq
import Derived.Test.YtchbfjjeodnocaaDoorWMore
import Derived.Deep.RegionHeld3
namespace Go.Proofs.YtchbfjjeodnocaaDoor.Giv
open Go.RowKit Go.Proofs.YtchbfjjeodnocaaDoorW.PrintWords Go.Proofs.YtchbfjjeodnocaaDoorW.PrintLast Go.Proofs.YtchbfjjeodnocaaDoor.Pk Go.Proofs.YtchbfjjeodnocaaDoor.Ord Go.Proofs.YtchbfjjeodnocaaDoor.QN
set_option linter.unusedVariables false
set_option linter.unusedSimpArgs false

theorem ptrInfoZ : (Tryd.prog.info? 90).map (fun i => (i.zero, i.size, i.bytes)) = some (some (.pointer none), 1, 8) := by kernel_rfl
/-- What plain numbers tell. -/
def zsOf (l : List S102) : List Int := l.map fun x => zOf x.f0 x.f1
theorem zsOf_len (l : List S102) : (zsOf l).length = l.length := by simp [zsOf]
set_option maxHeartbeats 4000000 in
set_option maxRecDepth 100000 in
theorem zzBigs_calls (A : Option Addr) (c : Nat) (l : List S102) (w : World) (hr : Kd.C k102 w A l.length l) (hl : l.length ≤ 100000) (hs : ∀ x ∈ l, x.f1.size ≤ 100000) :
    Calls Tryd.prog 133 #[.slice A l.length c] w fun e w' => ∃ v, e = .returned v ∧ BOwn w' w.heap.size v (zsOf l) ∧ Below w.heap.size w w' := by
  have HR := Aside0.mk hr
  clear hr
  go_enter Tryd.func133, Tryd.ntmps133
  go_wp2_with fail
  go_loopw [3, 8] (fun v3 v8 wr => ∃ (k : Nat), v8 = .int .i64 k ∧ k ≤ l.length ∧ Aside0 (BOwn wr w.heap.size v3 (zsOf (l.take k))) ∧ Aside0 (Below w.heap.size w wr)) (fun v3 v8 wr => l.length - (match v8 with | .int _ n => n.toNat | _ => 0))
  case atStart => exact ⟨0, rfl, Nat.zero_le _, Aside0.mk (BOwn.nil w w.heap.size), Aside0.mk (Below.refl _ _)⟩
  case round =>
    obtain ⟨k, rfl, hk, HB, BL⟩ := hrel
    by_cases hlt : k < l.length
    · obtain ⟨ad, rfl, c0, c1⟩ := at_T102 HR.out (k : Int) (by omega) (by omega)
      replace c0 := (BL.out.cell (World.block_lt_of_cell? w _ c0)).trans c0
      replace c1 := (BL.out.cell (World.block_lt_of_cell? w _ c1)).trans c1
      have er : rd_T102 l (k : Int) = l[k]'hlt := by
        unfold rd_T102
        rw [Int.toNat_natCast, List.getD_eq_getElem?_getD, List.getElem?_eq_getElem hlt]
        rfl
      rw [er, Int.toNat_natCast] at c0 c1
      have hsx := hs _ (List.getElem_mem hlt)
      have nx : zsOf (l.take k) ++ [zOf (l[k]'hlt).f0 (l[k]'hlt).f1] = zsOf (l.take (k + 1)) := by
        unfold zsOf
        rw [List.take_succ_eq_append_getElem hlt, List.map_append]
        rfl
      have NX := Aside0.mk nx
      have LEN := Aside0.mk (show (zsOf (l.take k)).length = k by rw [zsOf_len, List.length_take]; omega)
      clear nx er
      generalize l[k]'hlt = x at *
      obtain ⟨ng, mg⟩ := x
      have k4 := blk_new wr (Obj.cells #[Value.bool false, .string ⟨#[]⟩] 102)
      have p0 := blk_cell k4 0
      have p1 := blk_cell k4 1
      have f0 := Lib.frozen_of_heap k4 0
      have f1 := Lib.frozen_of_heap k4 1
      have lt4 := blk_lt k4
      have k5 := blk_new wr (Obj.cells #[Value.bool ng, .string mg] 102)
      have q0 := blk_cell k5 0
      have q1 := blk_cell k5 1
      have A5 := Aside0.mk (below_alloc (Below.refl wr.heap.size wr) (Obj.cells #[Value.bool ng, .string mg] 102))
      have zb := fun (w' : World) => zzBig_calls ng mg w' hsx
      have f4 : (k : Int) < (l.length : Int) := Int.ofNat_lt.2 hlt
      have WK := Aside0.mk (Pk.wr k (by omega))
      have KL := Aside0.mk hlt
      have HL := Aside0.mk hl
      clear k4 k5 hs hlt hl hk
      go_wp2_with (first | (go_at_call 132; (with_reducible refine (zb _).mono ?_); rintro e w3 ⟨p, rfl, hp, d3⟩; have B3 := below_then A5.out A5.out.size d3; have BL3 := Aside0.mk (below_then BL.out BL.out.size B3); have BS3 := Aside0.mk (Nat.le_trans BL.out.size B3.size); obtain ⟨qs, hq1, hq2⟩ := HB.out.below B3; have HQ1 := Aside0.mk hq1; have HQ2 := Aside0.mk hq2; have Q2 := Aside0.mk hp; have QL := Aside0.mk (show (qs.length + 1) * 8 ≤ 140737488355328 by rw [hq2.1, LEN.out]; have := KL.out; have := HL.out; omega); clear B3 hq1 hq2 hp d3) | ((with_reducible refine gate_builtin (b := .append) (xs := #[.tmp 12, .tmp 15]) rfl ?_); at_builtin; refine Kd.R_append ptrK (w0 := w) w.heap.size rfl (.tmp 12) (.tmp 15) 91 90 (.pointer none) 8 rfl Tryd.underlying91 ptrInfoZ rfl (by decide) (by omega) u3 qs p [.pointer (some ⟨p, 0, none⟩)] (fun _ => True) (fun _ => False) rfl rfl ?aP (fun _ hk => hk.elim) ?aF ?aO ?aB ?aS ?aL ?_; (case aP => exact rfl); (case aF => exact (fun _ _ => trivial)); (case aO => exact HQ1.out); (case aB => exact BL3.out); (case aS => exact BS3.out); (case aL => exact QL.out); intro v5 w5 ho hb hg hat; have HO := Aside0.mk (BOwn.more HQ1.out HQ2.out Q2.out ho hg); have BL5 := Aside0.mk hb; clear ho hb hg hat))
      refine ⟨⟨k + 1, ?_, KL.out, Aside0.mk (NX.out ▸ HO.out), BL5⟩, ?_⟩
      · rw [WK.out]
      · have := KL.out
        simp only [WK.out, Int.toNat_natCast]
        omega
    · obtain rfl : k = l.length := by omega
      have f4 : ¬ (l.length : Int) < (l.length : Int) := by omega
      have e := HB.out
      rw [List.take_of_length_le (Nat.le_refl _)] at e
      have HE := Aside0.mk e
      clear e
      go_wp2_with fail
      go_ret
      exact ⟨_, rfl, HE.out, BL.out⟩
end Go.Proofs.YtchbfjjeodnocaaDoor.Giv

namespace Go.Proofs.YtchbfjjeodnocaaDoor.Giv
open Go.RowKit Go.Proofs.YtchbfjjeodnocaaDoorW.PrintWords Go.Proofs.YtchbfjjeodnocaaDoorW.PrintLast Go.Proofs.YtchbfjjeodnocaaDoor.Pk Go.Proofs.YtchbfjjeodnocaaDoor.Ord Go.Proofs.YtchbfjjeodnocaaDoor.QN
set_option linter.unusedVariables false
set_option linter.unusedSimpArgs false

set_option maxRecDepth 100000 in
theorem letter_zero (w : World) : Calls Tryd.prog 134 #[.agg #[.bool false, .string ⟨#[]⟩, .bool false, .string ⟨#[]⟩]] w fun e w' => e = .returned (.agg #[.string ⟨#[]⟩, .pointer none]) ∧ Below w.heap.size w w' := by
  have b1 := below_alloc (below_alloc (Below.refl w.heap.size w) (Obj.cells #[.bool false, .string ⟨#[]⟩, .bool false, .string ⟨#[]⟩] 104)) (Obj.cells #[.string ⟨#[]⟩, .pointer none] 94)
  have B1 := Aside0.mk b1
  clear b1
  go_enter Tryd.func134, Tryd.ntmps134
  go_wp2_with fail
  exact bodyPost_ret (results_cell_row rfl _ _ (w.heap.size + 1) 94 #[.string ⟨#[]⟩, .pointer none] (0, 0) _ rfl (by have := blk_new (w.alloc (Obj.cells #[.bool false, .string ⟨#[]⟩, .bool false, .string ⟨#[]⟩] 104)) (Obj.cells #[.string ⟨#[]⟩, .pointer none] 94); simpa using this) Tryd.underlying94 rfl (by kernel_rfl)) rfl ⟨rfl, B1.out⟩
set_option maxRecDepth 100000 in
theorem implLetter_zero (w : World) : Calls Tryd.prog 113 #[.agg #[.bool false, .string ⟨#[]⟩, .bool false, .string ⟨#[]⟩]] w fun e w' => e = .returned (.agg #[.bool false, .string ⟨#[]⟩, .bool false, .string ⟨#[]⟩]) ∧ Below w.heap.size w w' := by
  have b1 := below_alloc (below_alloc (Below.refl w.heap.size w) (Obj.cells #[.bool false, .string ⟨#[]⟩, .bool false, .string ⟨#[]⟩] 46)) (Obj.cells #[.bool false, .string ⟨#[]⟩, .bool false, .string ⟨#[]⟩] 104)
  have B1 := Aside0.mk b1
  clear b1
  go_enter Tryd.func113, Tryd.ntmps113
  go_wp2_with fail
  exact bodyPost_ret (results_cell_row rfl _ _ (w.heap.size + 1) 104 #[.bool false, .string ⟨#[]⟩, .bool false, .string ⟨#[]⟩] (0, 0) _ rfl (by have := blk_new (w.alloc (Obj.cells #[.bool false, .string ⟨#[]⟩, .bool false, .string ⟨#[]⟩] 46)) (Obj.cells #[.bool false, .string ⟨#[]⟩, .bool false, .string ⟨#[]⟩] 104); simpa using this) Tryd.underlying104 rfl (by kernel_rfl)) rfl ⟨rfl, B1.out⟩
theorem pyC_seg (x y : List UInt8) : pyC x y = Seg.segC x y := by
  cases hx : Num.parse x with
  | some p =>
    cases hy : Num.parse y with
    | some q => rw [pyC_nn hx hy, Seg.segC_nn hx hy]
    | none => rw [pyC_nt hx hy, Seg.segC_nt hx hy]
  | none =>
    cases hy : Num.parse y with
    | some q => rw [pyC_tn hx hy, Seg.segC_tn hx hy]
    | none => rw [pyC_tt hx hy, Seg.segC_tt hx hy]
theorem zOf_nil : zOf false ⟨#[]⟩ = 0 := by
  unfold zOf
  rw [show (⟨#[]⟩ : ByteArray) = bs [] from rfl, bs_toList]
  rfl
@[irreducible] def gv (g i : Nat) (w : World) : Value := (w.cell? ⟨g, i, none⟩).getD .nilIface
theorem gv_of {w : World} {g i : Nat} {v : Value} (h : w.cell? ⟨g, i, none⟩ = some v) : w.cell? ⟨g, i, none⟩ = some (gv g i w) := by
  unfold gv
  rw [h]
  rfl
/-- What stands while the version is filled. -/
abbrev PrS (A RA : Option Addr) (n c rn rc : Nat) (w0 w1 : World) : Prop := w1.cell? ⟨w0.heap.size, 0, none⟩ = some (.bool false) ∧ w1.cell? ⟨w0.heap.size, 1, none⟩ = some (.string ⟨#[]⟩) ∧ w1.cell? ⟨w0.heap.size, 2, none⟩ = some (.slice RA rn rc) ∧ w1.cell? ⟨w0.heap.size, 3, none⟩ = some (.bool false) ∧ w1.cell? ⟨w0.heap.size, 4, none⟩ = some (.string ⟨#[]⟩) ∧ w1.cell? ⟨w0.heap.size, 5, none⟩ = some (.bool false) ∧ w1.cell? ⟨w0.heap.size, 6, none⟩ = some (.string ⟨#[]⟩) ∧ w1.cell? ⟨w0.heap.size, 7, none⟩ = some (.bool false) ∧ w1.cell? ⟨w0.heap.size, 8, none⟩ = some (.string ⟨#[]⟩) ∧ w1.cell? ⟨w0.heap.size, 9, none⟩ = some (.bool false) ∧ w1.cell? ⟨w0.heap.size, 10, none⟩ = some (.string ⟨#[]⟩) ∧ w1.cell? ⟨w0.heap.size, 11, none⟩ = some (.bool false) ∧ w1.cell? ⟨w0.heap.size, 12, none⟩ = some (.string ⟨#[]⟩) ∧ w1.cell? ⟨w0.heap.size, 13, none⟩ = some (.bool false) ∧ w1.cell? ⟨w0.heap.size, 14, none⟩ = some (.string ⟨#[]⟩) ∧ w1.cell? ⟨w0.heap.size, 15, none⟩ = some (.slice A n c) ∧ w1.cell? ⟨w0.heap.size, 16, none⟩ = some (.slice none 0 0) ∧ w0.heap.size + 1 < w1.heap.size ∧ w1.cell? ⟨w0.heap.size + 1, 0, none⟩ = some (gv (w0.heap.size + 1) 0 w1) ∧ w1.cell? ⟨w0.heap.size + 1, 1, none⟩ = some (gv (w0.heap.size + 1) 1 w1) ∧ w1.cell? ⟨w0.heap.size + 1, 2, none⟩ = some (gv (w0.heap.size + 1) 2 w1) ∧ w1.cell? ⟨w0.heap.size + 1, 3, none⟩ = some (gv (w0.heap.size + 1) 3 w1) ∧ w1.cell? ⟨w0.heap.size + 1, 4, none⟩ = some (gv (w0.heap.size + 1) 4 w1) ∧ w1.cell? ⟨w0.heap.size + 1, 5, none⟩ = some (gv (w0.heap.size + 1) 5 w1) ∧ w1.cell? ⟨w0.heap.size + 1, 6, none⟩ = some (gv (w0.heap.size + 1) 6 w1) ∧ w1.cell? ⟨w0.heap.size + 1, 7, none⟩ = some (gv (w0.heap.size + 1) 7 w1) ∧ w1.cell? ⟨w0.heap.size + 1, 8, none⟩ = some (gv (w0.heap.size + 1) 8 w1) ∧ w1.cell? ⟨w0.heap.size + 1, 9, none⟩ = some (gv (w0.heap.size + 1) 9 w1) ∧ w1.frozen? ⟨w0.heap.size + 1, 0, none⟩ = false ∧ w1.frozen? ⟨w0.heap.size + 1, 1, none⟩ = false ∧ w1.frozen? ⟨w0.heap.size + 1, 2, none⟩ = false ∧ w1.frozen? ⟨w0.heap.size + 1, 3, none⟩ = false ∧ w1.frozen? ⟨w0.heap.size + 1, 4, none⟩ = false ∧ w1.frozen? ⟨w0.heap.size + 1, 5, none⟩ = false ∧ w1.frozen? ⟨w0.heap.size + 1, 6, none⟩ = false ∧ w1.frozen? ⟨w0.heap.size + 1, 7, none⟩ = false ∧ w1.frozen? ⟨w0.heap.size + 1, 8, none⟩ = false ∧ w1.frozen? ⟨w0.heap.size + 1, 9, none⟩ = false ∧ (∃ x0 x1 x2 x3 x4 x5 x6 x7 x8 x9, w1.heap[w0.heap.size + 1]? = some (Obj.cells #[x0, x1, x2, x3, x4, x5, x6, x7, x8, x9] 96 (0, 0))) ∧ Below w0.heap.size w0 w1
theorem prMk {A RA : Option Addr} {n c rn rc : Nat} {w0 w1 : World} (h : w1.cell? ⟨w0.heap.size, 0, none⟩ = some (.bool false) ∧ w1.cell? ⟨w0.heap.size, 1, none⟩ = some (.string ⟨#[]⟩) ∧ w1.cell? ⟨w0.heap.size, 2, none⟩ = some (.slice RA rn rc) ∧ w1.cell? ⟨w0.heap.size, 3, none⟩ = some (.bool false) ∧ w1.cell? ⟨w0.heap.size, 4, none⟩ = some (.string ⟨#[]⟩) ∧ w1.cell? ⟨w0.heap.size, 5, none⟩ = some (.bool false) ∧ w1.cell? ⟨w0.heap.size, 6, none⟩ = some (.string ⟨#[]⟩) ∧ w1.cell? ⟨w0.heap.size, 7, none⟩ = some (.bool false) ∧ w1.cell? ⟨w0.heap.size, 8, none⟩ = some (.string ⟨#[]⟩) ∧ w1.cell? ⟨w0.heap.size, 9, none⟩ = some (.bool false) ∧ w1.cell? ⟨w0.heap.size, 10, none⟩ = some (.string ⟨#[]⟩) ∧ w1.cell? ⟨w0.heap.size, 11, none⟩ = some (.bool false) ∧ w1.cell? ⟨w0.heap.size, 12, none⟩ = some (.string ⟨#[]⟩) ∧ w1.cell? ⟨w0.heap.size, 13, none⟩ = some (.bool false) ∧ w1.cell? ⟨w0.heap.size, 14, none⟩ = some (.string ⟨#[]⟩) ∧ w1.cell? ⟨w0.heap.size, 15, none⟩ = some (.slice A n c) ∧ w1.cell? ⟨w0.heap.size, 16, none⟩ = some (.slice none 0 0)) (hx : (∃ x0 x1 x2 x3 x4 x5 x6 x7 x8 x9, w1.heap[w0.heap.size + 1]? = some (Obj.cells #[x0, x1, x2, x3, x4, x5, x6, x7, x8, x9] 96 (0, 0)))) (h18 : Below w0.heap.size w0 w1) : PrS A RA n c rn rc w0 w1 := by
  obtain ⟨h0, h1, h2, h3, h4, h5, h6, h7, h8, h9, h10, h11, h12, h13, h14, h15, h16⟩ := h
  obtain ⟨x0, x1, x2, x3, x4, x5, x6, x7, x8, x9, h17⟩ := hx
  exact ⟨h0, h1, h2, h3, h4, h5, h6, h7, h8, h9, h10, h11, h12, h13, h14, h15, h16, blk_lt h17, gv_of (blk_cell h17 0), gv_of (blk_cell h17 1), gv_of (blk_cell h17 2), gv_of (blk_cell h17 3), gv_of (blk_cell h17 4), gv_of (blk_cell h17 5), gv_of (blk_cell h17 6), gv_of (blk_cell h17 7), gv_of (blk_cell h17 8), gv_of (blk_cell h17 9), Lib.frozen_of_heap h17 0, Lib.frozen_of_heap h17 1, Lib.frozen_of_heap h17 2, Lib.frozen_of_heap h17 3, Lib.frozen_of_heap h17 4, Lib.frozen_of_heap h17 5, Lib.frozen_of_heap h17 6, Lib.frozen_of_heap h17 7, Lib.frozen_of_heap h17 8, Lib.frozen_of_heap h17 9, ⟨x0, x1, x2, x3, x4, x5, x6, x7, x8, x9, h17⟩, h18⟩
theorem prS {A RA : Option Addr} {n c rn rc : Nat} {w0 w1 w2 : World} (h : PrS A RA n c rn rc w0 w1) (d : Below w1.heap.size w1 w2) : PrS A RA n c rn rc w0 w2 := by
  obtain ⟨h0, h1, h2, h3, h4, h5, h6, h7, h8, h9, h10, h11, h12, h13, h14, h15, h16, _, _, _, _, _, _, _, _, _, _, _, _, _, _, _, _, _, _, _, _, _, ⟨x0, x1, x2, x3, x4, x5, x6, x7, x8, x9, h17⟩, h18⟩ := h
  exact prMk ⟨pw_cell_below d h0, pw_cell_below d h1, pw_cell_below d h2, pw_cell_below d h3, pw_cell_below d h4, pw_cell_below d h5, pw_cell_below d h6, pw_cell_below d h7, pw_cell_below d h8, pw_cell_below d h9, pw_cell_below d h10, pw_cell_below d h11, pw_cell_below d h12, pw_cell_below d h13, pw_cell_below d h14, pw_cell_below d h15, pw_cell_below d h16⟩ ⟨x0, x1, x2, x3, x4, x5, x6, x7, x8, x9, (d.block _ (blk_lt h17)).trans h17⟩ (h18.trans (d.mono h18.size))
theorem prStore {A RA : Option Addr} {n c rn rc : Nat} {w0 w1 : World} (v0 v1 v2 v3 v4 v5 v6 v7 v8 v9 : Value) (h : PrS A RA n c rn rc w0 w1) : PrS A RA n c rn rc w0 ((((((((((w1.setCell ⟨w0.heap.size + 1, 0, none⟩ v0).setCell ⟨w0.heap.size + 1, 1, none⟩ v1).setCell ⟨w0.heap.size + 1, 2, none⟩ v2).setCell ⟨w0.heap.size + 1, 3, none⟩ v3).setCell ⟨w0.heap.size + 1, 4, none⟩ v4).setCell ⟨w0.heap.size + 1, 5, none⟩ v5).setCell ⟨w0.heap.size + 1, 6, none⟩ v6).setCell ⟨w0.heap.size + 1, 7, none⟩ v7).setCell ⟨w0.heap.size + 1, 8, none⟩ v8).setCell ⟨w0.heap.size + 1, 9, none⟩ v9) := by
  obtain ⟨h0, h1, h2, h3, h4, h5, h6, h7, h8, h9, h10, h11, h12, h13, h14, h15, h16, _, _, _, _, _, _, _, _, _, _, _, _, _, _, _, _, _, _, _, _, _, ⟨x0, x1, x2, x3, x4, x5, x6, x7, x8, x9, h17⟩, h18⟩ := h
  have b : Below (w0.heap.size + 1) w1 ((((((((((w1.setCell ⟨w0.heap.size + 1, 0, none⟩ v0).setCell ⟨w0.heap.size + 1, 1, none⟩ v1).setCell ⟨w0.heap.size + 1, 2, none⟩ v2).setCell ⟨w0.heap.size + 1, 3, none⟩ v3).setCell ⟨w0.heap.size + 1, 4, none⟩ v4).setCell ⟨w0.heap.size + 1, 5, none⟩ v5).setCell ⟨w0.heap.size + 1, 6, none⟩ v6).setCell ⟨w0.heap.size + 1, 7, none⟩ v7).setCell ⟨w0.heap.size + 1, 8, none⟩ v8).setCell ⟨w0.heap.size + 1, 9, none⟩ v9) := (((((((((((Below.refl (w0.heap.size + 1) w1).setCell (p := ⟨w0.heap.size + 1, 0, none⟩) (Nat.le_refl _) v0).setCell (p := ⟨w0.heap.size + 1, 1, none⟩) (Nat.le_refl _) v1).setCell (p := ⟨w0.heap.size + 1, 2, none⟩) (Nat.le_refl _) v2).setCell (p := ⟨w0.heap.size + 1, 3, none⟩) (Nat.le_refl _) v3).setCell (p := ⟨w0.heap.size + 1, 4, none⟩) (Nat.le_refl _) v4).setCell (p := ⟨w0.heap.size + 1, 5, none⟩) (Nat.le_refl _) v5).setCell (p := ⟨w0.heap.size + 1, 6, none⟩) (Nat.le_refl _) v6).setCell (p := ⟨w0.heap.size + 1, 7, none⟩) (Nat.le_refl _) v7).setCell (p := ⟨w0.heap.size + 1, 8, none⟩) (Nat.le_refl _) v8).setCell (p := ⟨w0.heap.size + 1, 9, none⟩) (Nat.le_refl _) v9)
  exact prMk ⟨(b.cell (Nat.lt_succ_self _)).trans h0, (b.cell (Nat.lt_succ_self _)).trans h1, (b.cell (Nat.lt_succ_self _)).trans h2, (b.cell (Nat.lt_succ_self _)).trans h3, (b.cell (Nat.lt_succ_self _)).trans h4, (b.cell (Nat.lt_succ_self _)).trans h5, (b.cell (Nat.lt_succ_self _)).trans h6, (b.cell (Nat.lt_succ_self _)).trans h7, (b.cell (Nat.lt_succ_self _)).trans h8, (b.cell (Nat.lt_succ_self _)).trans h9, (b.cell (Nat.lt_succ_self _)).trans h10, (b.cell (Nat.lt_succ_self _)).trans h11, (b.cell (Nat.lt_succ_self _)).trans h12, (b.cell (Nat.lt_succ_self _)).trans h13, (b.cell (Nat.lt_succ_self _)).trans h14, (b.cell (Nat.lt_succ_self _)).trans h15, (b.cell (Nat.lt_succ_self _)).trans h16⟩ ⟨v0, v1, v2, v3, v4, v5, v6, v7, v8, v9, (blk_put (cs := #[v0, v1, v2, v3, v4, v5, v6, v7, v8, x9]) (blk_put (cs := #[v0, v1, v2, v3, v4, v5, v6, v7, x8, x9]) (blk_put (cs := #[v0, v1, v2, v3, v4, v5, v6, x7, x8, x9]) (blk_put (cs := #[v0, v1, v2, v3, v4, v5, x6, x7, x8, x9]) (blk_put (cs := #[v0, v1, v2, v3, v4, x5, x6, x7, x8, x9]) (blk_put (cs := #[v0, v1, v2, v3, x4, x5, x6, x7, x8, x9]) (blk_put (cs := #[v0, v1, v2, x3, x4, x5, x6, x7, x8, x9]) (blk_put (cs := #[v0, v1, x2, x3, x4, x5, x6, x7, x8, x9]) (blk_put (cs := #[v0, x1, x2, x3, x4, x5, x6, x7, x8, x9]) (blk_put (cs := #[x0, x1, x2, x3, x4, x5, x6, x7, x8, x9]) h17 0 v0 rfl) 1 v1 rfl) 2 v2 rfl) 3 v3 rfl) 4 v4 rfl) 5 v5 rfl) 6 v6 rfl) 7 v7 rfl) 8 v8 rfl) 9 v9 rfl)⟩ ((((((((((h18.setCell (p := ⟨w0.heap.size + 1, 0, none⟩) (Nat.le_succ _) v0).setCell (p := ⟨w0.heap.size + 1, 1, none⟩) (Nat.le_succ _) v1).setCell (p := ⟨w0.heap.size + 1, 2, none⟩) (Nat.le_succ _) v2).setCell (p := ⟨w0.heap.size + 1, 3, none⟩) (Nat.le_succ _) v3).setCell (p := ⟨w0.heap.size + 1, 4, none⟩) (Nat.le_succ _) v4).setCell (p := ⟨w0.heap.size + 1, 5, none⟩) (Nat.le_succ _) v5).setCell (p := ⟨w0.heap.size + 1, 6, none⟩) (Nat.le_succ _) v6).setCell (p := ⟨w0.heap.size + 1, 7, none⟩) (Nat.le_succ _) v7).setCell (p := ⟨w0.heap.size + 1, 8, none⟩) (Nat.le_succ _) v8).setCell (p := ⟨w0.heap.size + 1, 9, none⟩) (Nat.le_succ _) v9)
theorem prPut {A RA : Option Addr} {n c rn rc : Nat} {w0 w1 : World} (v0 v1 v2 v3 v4 v5 v6 v7 v8 v9 : Value) (h : PrS A RA n c rn rc w0 w1) : ((((((((((w1.setCell ⟨w0.heap.size + 1, 0, none⟩ v0).setCell ⟨w0.heap.size + 1, 1, none⟩ v1).setCell ⟨w0.heap.size + 1, 2, none⟩ v2).setCell ⟨w0.heap.size + 1, 3, none⟩ v3).setCell ⟨w0.heap.size + 1, 4, none⟩ v4).setCell ⟨w0.heap.size + 1, 5, none⟩ v5).setCell ⟨w0.heap.size + 1, 6, none⟩ v6).setCell ⟨w0.heap.size + 1, 7, none⟩ v7).setCell ⟨w0.heap.size + 1, 8, none⟩ v8).setCell ⟨w0.heap.size + 1, 9, none⟩ v9).heap[w0.heap.size + 1]? = some (Obj.cells #[v0, v1, v2, v3, v4, v5, v6, v7, v8, v9] 96 (0, 0)) ∧ Below w0.heap.size w0 ((((((((((w1.setCell ⟨w0.heap.size + 1, 0, none⟩ v0).setCell ⟨w0.heap.size + 1, 1, none⟩ v1).setCell ⟨w0.heap.size + 1, 2, none⟩ v2).setCell ⟨w0.heap.size + 1, 3, none⟩ v3).setCell ⟨w0.heap.size + 1, 4, none⟩ v4).setCell ⟨w0.heap.size + 1, 5, none⟩ v5).setCell ⟨w0.heap.size + 1, 6, none⟩ v6).setCell ⟨w0.heap.size + 1, 7, none⟩ v7).setCell ⟨w0.heap.size + 1, 8, none⟩ v8).setCell ⟨w0.heap.size + 1, 9, none⟩ v9) := by
  obtain ⟨h0, h1, h2, h3, h4, h5, h6, h7, h8, h9, h10, h11, h12, h13, h14, h15, h16, _, _, _, _, _, _, _, _, _, _, _, _, _, _, _, _, _, _, _, _, _, ⟨x0, x1, x2, x3, x4, x5, x6, x7, x8, x9, h17⟩, h18⟩ := h
  exact ⟨(blk_put (cs := #[v0, v1, v2, v3, v4, v5, v6, v7, v8, x9]) (blk_put (cs := #[v0, v1, v2, v3, v4, v5, v6, v7, x8, x9]) (blk_put (cs := #[v0, v1, v2, v3, v4, v5, v6, x7, x8, x9]) (blk_put (cs := #[v0, v1, v2, v3, v4, v5, x6, x7, x8, x9]) (blk_put (cs := #[v0, v1, v2, v3, v4, x5, x6, x7, x8, x9]) (blk_put (cs := #[v0, v1, v2, v3, x4, x5, x6, x7, x8, x9]) (blk_put (cs := #[v0, v1, v2, x3, x4, x5, x6, x7, x8, x9]) (blk_put (cs := #[v0, v1, x2, x3, x4, x5, x6, x7, x8, x9]) (blk_put (cs := #[v0, x1, x2, x3, x4, x5, x6, x7, x8, x9]) (blk_put (cs := #[x0, x1, x2, x3, x4, x5, x6, x7, x8, x9]) h17 0 v0 rfl) 1 v1 rfl) 2 v2 rfl) 3 v3 rfl) 4 v4 rfl) 5 v5 rfl) 6 v6 rfl) 7 v7 rfl) 8 v8 rfl) 9 v9 rfl), ((((((((((h18.setCell (p := ⟨w0.heap.size + 1, 0, none⟩) (Nat.le_succ _) v0).setCell (p := ⟨w0.heap.size + 1, 1, none⟩) (Nat.le_succ _) v1).setCell (p := ⟨w0.heap.size + 1, 2, none⟩) (Nat.le_succ _) v2).setCell (p := ⟨w0.heap.size + 1, 3, none⟩) (Nat.le_succ _) v3).setCell (p := ⟨w0.heap.size + 1, 4, none⟩) (Nat.le_succ _) v4).setCell (p := ⟨w0.heap.size + 1, 5, none⟩) (Nat.le_succ _) v5).setCell (p := ⟨w0.heap.size + 1, 6, none⟩) (Nat.le_succ _) v6).setCell (p := ⟨w0.heap.size + 1, 7, none⟩) (Nat.le_succ _) v7).setCell (p := ⟨w0.heap.size + 1, 8, none⟩) (Nat.le_succ _) v8).setCell (p := ⟨w0.heap.size + 1, 9, none⟩) (Nat.le_succ _) v9)⟩
theorem prKeep {A RA : Option Addr} {n c rn rc : Nat} {w0 w1 : World} (v0 v1 v2 v3 v4 v5 v6 v7 v8 v9 : Value) (F : World → Prop) (hF : ∀ (w : World) (cs : Array Value) (j : Nat) (u : Value), w.heap[w0.heap.size + 1]? = some (Obj.cells cs 96 (0, 0)) → F w → F (w.setCell ⟨w0.heap.size + 1, j, none⟩ u)) (h0 : F w1) (h : PrS A RA n c rn rc w0 w1) : F ((((((((((w1.setCell ⟨w0.heap.size + 1, 0, none⟩ v0).setCell ⟨w0.heap.size + 1, 1, none⟩ v1).setCell ⟨w0.heap.size + 1, 2, none⟩ v2).setCell ⟨w0.heap.size + 1, 3, none⟩ v3).setCell ⟨w0.heap.size + 1, 4, none⟩ v4).setCell ⟨w0.heap.size + 1, 5, none⟩ v5).setCell ⟨w0.heap.size + 1, 6, none⟩ v6).setCell ⟨w0.heap.size + 1, 7, none⟩ v7).setCell ⟨w0.heap.size + 1, 8, none⟩ v8).setCell ⟨w0.heap.size + 1, 9, none⟩ v9) := by
  obtain ⟨_, _, _, _, _, _, _, _, _, _, _, _, _, _, _, _, _, _, _, _, _, _, _, _, _, _, _, _, _, _, _, _, _, _, _, _, _, _, ⟨x0, x1, x2, x3, x4, x5, x6, x7, x8, x9, h17⟩, _⟩ := h
  have f0 := hF _ _ 0 v0 h17 h0
  have k0 := blk_put (cs := #[x0, x1, x2, x3, x4, x5, x6, x7, x8, x9]) h17 0 v0 rfl
  have f1 := hF _ _ 1 v1 k0 f0
  have k1 := blk_put (cs := #[v0, x1, x2, x3, x4, x5, x6, x7, x8, x9]) k0 1 v1 rfl
  have f2 := hF _ _ 2 v2 k1 f1
  have k2 := blk_put (cs := #[v0, v1, x2, x3, x4, x5, x6, x7, x8, x9]) k1 2 v2 rfl
  have f3 := hF _ _ 3 v3 k2 f2
  have k3 := blk_put (cs := #[v0, v1, v2, x3, x4, x5, x6, x7, x8, x9]) k2 3 v3 rfl
  have f4 := hF _ _ 4 v4 k3 f3
  have k4 := blk_put (cs := #[v0, v1, v2, v3, x4, x5, x6, x7, x8, x9]) k3 4 v4 rfl
  have f5 := hF _ _ 5 v5 k4 f4
  have k5 := blk_put (cs := #[v0, v1, v2, v3, v4, x5, x6, x7, x8, x9]) k4 5 v5 rfl
  have f6 := hF _ _ 6 v6 k5 f5
  have k6 := blk_put (cs := #[v0, v1, v2, v3, v4, v5, x6, x7, x8, x9]) k5 6 v6 rfl
  have f7 := hF _ _ 7 v7 k6 f6
  have k7 := blk_put (cs := #[v0, v1, v2, v3, v4, v5, v6, x7, x8, x9]) k6 7 v7 rfl
  have f8 := hF _ _ 8 v8 k7 f7
  have k8 := blk_put (cs := #[v0, v1, v2, v3, v4, v5, v6, v7, x8, x9]) k7 8 v8 rfl
  have f9 := hF _ _ 9 v9 k8 f8
  have k9 := blk_put (cs := #[v0, v1, v2, v3, v4, v5, v6, v7, v8, x9]) k8 9 v9 rfl
  exact f9
set_option maxRecDepth 100000 in
set_option maxHeartbeats 20000000 in
theorem pyRel_calls (A RA : Option Addr) (n c rn rc : Nat) (l : List S102) (w : World) (hrn : rn = l.length) (hr : Kd.C k102 w RA l.length l) (hl : l.length ≤ 100000) (hs : ∀ x ∈ l, x.f1.size ≤ 100000) :
    Calls Tryd.prog 111 #[.agg #[.bool false, .string ⟨#[]⟩, .slice RA rn rc, .bool false, .string ⟨#[]⟩, .bool false, .string ⟨#[]⟩, .bool false, .string ⟨#[]⟩, .bool false, .string ⟨#[]⟩, .bool false, .string ⟨#[]⟩, .bool false, .string ⟨#[]⟩, .slice A n c, .slice none 0 0]] w fun e w' => ∃ (p : Nat) (A' : Option Addr) (c' : Nat), e = .returned (.agg (loR (.pointer (some ⟨p, 0, none⟩)) (.slice A' l.length c') A n c)) ∧ IsBig w' p 0 ∧ (∃ bs0, BOwn w' bs0 (.slice A' l.length c') (zsOf l)) ∧ l.length ≤ c' ∧ Below w.heap.size w w' := by
  have HR := Aside0.mk hr
  clear hr
  have b2 := below_alloc (below_alloc (Below.refl w.heap.size w) (Obj.cells #[.bool false, .string ⟨#[]⟩, .slice RA rn rc, .bool false, .string ⟨#[]⟩, .bool false, .string ⟨#[]⟩, .bool false, .string ⟨#[]⟩, .bool false, .string ⟨#[]⟩, .bool false, .string ⟨#[]⟩, .bool false, .string ⟨#[]⟩, .slice A n c, .slice none 0 0] 141)) (Obj.cells #[.pointer none, .slice none 0 0, .string ⟨#[]⟩, .pointer none, .string ⟨#[]⟩, .pointer none, .string ⟨#[]⟩, .pointer none, .slice none 0 0, .slice none 0 0] 96)
  have k1 : ((w.alloc (Obj.cells #[.bool false, .string ⟨#[]⟩, .slice RA rn rc, .bool false, .string ⟨#[]⟩, .bool false, .string ⟨#[]⟩, .bool false, .string ⟨#[]⟩, .bool false, .string ⟨#[]⟩, .bool false, .string ⟨#[]⟩, .bool false, .string ⟨#[]⟩, .slice A n c, .slice none 0 0] 141)).alloc (Obj.cells #[.pointer none, .slice none 0 0, .string ⟨#[]⟩, .pointer none, .string ⟨#[]⟩, .pointer none, .string ⟨#[]⟩, .pointer none, .slice none 0 0, .slice none 0 0] 96)).heap[w.heap.size]? = some (Obj.cells #[.bool false, .string ⟨#[]⟩, .slice RA rn rc, .bool false, .string ⟨#[]⟩, .bool false, .string ⟨#[]⟩, .bool false, .string ⟨#[]⟩, .bool false, .string ⟨#[]⟩, .bool false, .string ⟨#[]⟩, .bool false, .string ⟨#[]⟩, .slice A n c, .slice none 0 0] 141) := blk_alloc (blk_new w _) _
  have m1 : ((w.alloc (Obj.cells #[.bool false, .string ⟨#[]⟩, .slice RA rn rc, .bool false, .string ⟨#[]⟩, .bool false, .string ⟨#[]⟩, .bool false, .string ⟨#[]⟩, .bool false, .string ⟨#[]⟩, .bool false, .string ⟨#[]⟩, .bool false, .string ⟨#[]⟩, .slice A n c, .slice none 0 0] 141)).alloc (Obj.cells #[.pointer none, .slice none 0 0, .string ⟨#[]⟩, .pointer none, .string ⟨#[]⟩, .pointer none, .string ⟨#[]⟩, .pointer none, .slice none 0 0, .slice none 0 0] 96)).heap[w.heap.size + 1]? = some (Obj.cells #[.pointer none, .slice none 0 0, .string ⟨#[]⟩, .pointer none, .string ⟨#[]⟩, .pointer none, .string ⟨#[]⟩, .pointer none, .slice none 0 0, .slice none 0 0] 96) := by
    have := blk_new (w.alloc (Obj.cells #[.bool false, .string ⟨#[]⟩, .slice RA rn rc, .bool false, .string ⟨#[]⟩, .bool false, .string ⟨#[]⟩, .bool false, .string ⟨#[]⟩, .bool false, .string ⟨#[]⟩, .bool false, .string ⟨#[]⟩, .bool false, .string ⟨#[]⟩, .slice A n c, .slice none 0 0] 141)) (Obj.cells #[.pointer none, .slice none 0 0, .string ⟨#[]⟩, .pointer none, .string ⟨#[]⟩, .pointer none, .string ⟨#[]⟩, .pointer none, .slice none 0 0, .slice none 0 0] 96)
    simpa using this
  have zb : ∀ w : World, Calls Tryd.prog 132 #[.agg #[.bool false, .string ⟨#[]⟩]] w fun e w' => ∃ p, e = .returned (.pointer (some ⟨p, 0, none⟩)) ∧ IsBig w' p 0 ∧ Below w.heap.size w w' := fun w => by
    have := zzBig_calls false ⟨#[]⟩ w (by decide)
    rwa [zOf_nil] at this
  have zs : ∀ w' : World, Below w.heap.size w w' → Calls Tryd.prog 133 #[.slice RA rn rc] w' fun e w'' => ∃ (A' : Option Addr) (c' : Nat), e = .returned (.slice A' l.length c') ∧ BOwn w'' w.heap.size (.slice A' l.length c') (zsOf l) ∧ l.length ≤ c' ∧ Below w'.heap.size w' w'' := fun w' d => by
    rw [hrn]
    refine (zzBigs_calls RA rc l w' (Kd.C_below HR.out d) hl hs).mono ?_
    rintro e w'' ⟨v, rfl, ho, d2⟩
    obtain ⟨A', c', rfl, hc, hb⟩ := ho.slice
    rw [zsOf_len] at hc ho
    exact ⟨A', c', by rw [zsOf_len], ho.lower d.size, hc, d2⟩
  clear hrn
  have lz := letter_zero
  go_enter Tryd.func111, Tryd.ntmps111
  go_wp2_with fail
  obtain ⟨W, eW⟩ : ∃ W, W = ((w.alloc (Obj.cells #[.bool false, .string ⟨#[]⟩, .slice RA rn rc, .bool false, .string ⟨#[]⟩, .bool false, .string ⟨#[]⟩, .bool false, .string ⟨#[]⟩, .bool false, .string ⟨#[]⟩, .bool false, .string ⟨#[]⟩, .bool false, .string ⟨#[]⟩, .slice A n c, .slice none 0 0] 141)).alloc (Obj.cells #[.pointer none, .slice none 0 0, .string ⟨#[]⟩, .pointer none, .string ⟨#[]⟩, .pointer none, .string ⟨#[]⟩, .pointer none, .slice none 0 0, .slice none 0 0] 96)) := ⟨_, rfl⟩
  rw [← eW] at b2 k1 m1 ⊢
  have HS := prMk (A := A) (RA := RA) (n := n) (c := c) (rn := rn) (rc := rc) (w0 := w) (w1 := W) ⟨blk_cell k1 0, blk_cell k1 1, blk_cell k1 2, blk_cell k1 3, blk_cell k1 4, blk_cell k1 5, blk_cell k1 6, blk_cell k1 7, blk_cell k1 8, blk_cell k1 9, blk_cell k1 10, blk_cell k1 11, blk_cell k1 12, blk_cell k1 13, blk_cell k1 14, blk_cell k1 15, blk_cell k1 16⟩ ⟨_, _, _, _, _, _, _, _, _, _, m1⟩ b2
  have HD := prS HS (Below.drew (Below.refl _ _))
  have B2 := Aside0.mk b2
  clear k1 m1 eW b2 HS
  go_region_held3 (fun w' => w'.cell? ⟨w.heap.size, 0, none⟩ = some (.bool false) ∧ w'.cell? ⟨w.heap.size, 1, none⟩ = some (.string ⟨#[]⟩) ∧ w'.cell? ⟨w.heap.size, 2, none⟩ = some (.slice RA rn rc) ∧ w'.cell? ⟨w.heap.size, 3, none⟩ = some (.bool false) ∧ w'.cell? ⟨w.heap.size, 4, none⟩ = some (.string ⟨#[]⟩) ∧ w'.cell? ⟨w.heap.size, 5, none⟩ = some (.bool false) ∧ w'.cell? ⟨w.heap.size, 6, none⟩ = some (.string ⟨#[]⟩) ∧ w'.cell? ⟨w.heap.size, 7, none⟩ = some (.bool false) ∧ w'.cell? ⟨w.heap.size, 8, none⟩ = some (.string ⟨#[]⟩) ∧ w'.cell? ⟨w.heap.size, 9, none⟩ = some (.bool false) ∧ w'.cell? ⟨w.heap.size, 10, none⟩ = some (.string ⟨#[]⟩) ∧ w'.cell? ⟨w.heap.size, 11, none⟩ = some (.bool false) ∧ w'.cell? ⟨w.heap.size, 12, none⟩ = some (.string ⟨#[]⟩) ∧ w'.cell? ⟨w.heap.size, 13, none⟩ = some (.bool false) ∧ w'.cell? ⟨w.heap.size, 14, none⟩ = some (.string ⟨#[]⟩) ∧ w'.cell? ⟨w.heap.size, 15, none⟩ = some (.slice A n c) ∧ w'.cell? ⟨w.heap.size, 16, none⟩ = some (.slice none 0 0) ∧ w.heap.size + 1 < w'.heap.size ∧ w'.cell? ⟨w.heap.size + 1, 0, none⟩ = some (gv (w.heap.size + 1) 0 w') ∧ w'.cell? ⟨w.heap.size + 1, 1, none⟩ = some (gv (w.heap.size + 1) 1 w') ∧ w'.cell? ⟨w.heap.size + 1, 2, none⟩ = some (gv (w.heap.size + 1) 2 w') ∧ w'.cell? ⟨w.heap.size + 1, 3, none⟩ = some (gv (w.heap.size + 1) 3 w') ∧ w'.cell? ⟨w.heap.size + 1, 4, none⟩ = some (gv (w.heap.size + 1) 4 w') ∧ w'.cell? ⟨w.heap.size + 1, 5, none⟩ = some (gv (w.heap.size + 1) 5 w') ∧ w'.cell? ⟨w.heap.size + 1, 6, none⟩ = some (gv (w.heap.size + 1) 6 w') ∧ w'.cell? ⟨w.heap.size + 1, 7, none⟩ = some (gv (w.heap.size + 1) 7 w') ∧ w'.cell? ⟨w.heap.size + 1, 8, none⟩ = some (gv (w.heap.size + 1) 8 w') ∧ w'.cell? ⟨w.heap.size + 1, 9, none⟩ = some (gv (w.heap.size + 1) 9 w') ∧ w'.frozen? ⟨w.heap.size + 1, 0, none⟩ = false ∧ w'.frozen? ⟨w.heap.size + 1, 1, none⟩ = false ∧ w'.frozen? ⟨w.heap.size + 1, 2, none⟩ = false ∧ w'.frozen? ⟨w.heap.size + 1, 3, none⟩ = false ∧ w'.frozen? ⟨w.heap.size + 1, 4, none⟩ = false ∧ w'.frozen? ⟨w.heap.size + 1, 5, none⟩ = false ∧ w'.frozen? ⟨w.heap.size + 1, 6, none⟩ = false ∧ w'.frozen? ⟨w.heap.size + 1, 7, none⟩ = false ∧ w'.frozen? ⟨w.heap.size + 1, 8, none⟩ = false ∧ w'.frozen? ⟨w.heap.size + 1, 9, none⟩ = false ∧ (∃ x0 x1 x2 x3 x4 x5 x6 x7 x8 x9, w'.heap[w.heap.size + 1]? = some (Obj.cells #[x0, x1, x2, x3, x4, x5, x6, x7, x8, x9] 96 (0, 0))) ∧ Below w.heap.size w w') (first | (with_reducible assumption) | (with_reducible exact prS (by with_reducible assumption) (by with_reducible assumption)) | (with_reducible exact prStore _ _ _ _ _ _ _ _ _ _ (by with_reducible assumption))) (first | (go_at_call 132; refine (zb _).mono ?_; rintro e w1 ⟨p, rfl, hp, d1⟩; have P1 := Aside0.mk hp; clear hp) | (go_at_call 133; refine (zs _ ?hz).mono ?_; (case hz => first | with_reducible assumption | exact below_then (Below.drew B2.out) B2.out.size d1 | exact below_then B2.out B2.out.size d1); rintro e w1 ⟨A', c', rfl, ho, hc', d1⟩; have R1 := Aside0.mk ho; clear ho) | (go_at_call 134; refine (lz _).mono ?_; rintro e w1 ⟨rfl, d1⟩))
  have hs : PrS A RA n c rn rc w w1 := by
    refine prS ?_ (by with_reducible assumption)
    refine prS ?_ (by with_reducible assumption)
    refine prS ?_ (by with_reducible assumption)
    refine prS ?_ (by with_reducible assumption)
    exact prS HD (by with_reducible assumption)
  have hP : IsBig w1 p 0 := by
    repeat (first | with_reducible exact P1.out | refine IsBig.below ?_ (by with_reducible assumption))
  have hR : BOwn w1 w.heap.size (.slice A' l.length c') (zsOf l) := by
    repeat (first | with_reducible exact R1.out | refine BOwn.below ?_ (by with_reducible assumption))
  have PK := Aside0.mk (@prKeep A RA n c rn rc w w1 (.pointer (some ⟨p, 0, none⟩)) (.slice A' l.length c') (.string ⟨#[]⟩) (.pointer none) (.string ⟨#[]⟩) (.pointer none) (.string ⟨#[]⟩) (.pointer none) (.slice A n c) (.slice none 0 0) (fun w' => IsBig w' p 0 ∧ BOwn w' w.heap.size (.slice A' l.length c') (zsOf l)) (fun w' cs j u hk hF => ⟨hF.1.put hk (by decide) j u, hF.2.put hk (by decide) (by decide) j u⟩) ⟨hP, hR⟩ hs)
  have PV := Aside0.mk (@prPut A RA n c rn rc w w1 (.pointer (some ⟨p, 0, none⟩)) (.slice A' l.length c') (.string ⟨#[]⟩) (.pointer none) (.string ⟨#[]⟩) (.pointer none) (.string ⟨#[]⟩) (.pointer none) (.slice A n c) (.slice none 0 0) hs)
  clear hs HD hP hR
  go_wp2_with fail
  exact bodyPost_ret (results_cell_row rfl _ _ (w.heap.size + 1) 96 (loR (.pointer (some ⟨p, 0, none⟩)) (.slice A' l.length c') A n c) (0, 0) _ rfl PV.out.1 Tryd.underlying96 rfl (by kernel_rfl)) rfl ⟨p, A', c', rfl, PK.out.1, ⟨_, PK.out.2⟩, hc', PV.out.2⟩
end Go.Proofs.YtchbfjjeodnocaaDoor.Giv

namespace Go.Proofs.YtchbfjjeodnocaaDoor.Giv
open Go.RowKit Go.Proofs.YtchbfjjeodnocaaDoorW.PrintWords Go.Proofs.YtchbfjjeodnocaaDoorW.PrintLast Go.Proofs.YtchbfjjeodnocaaDoor.Pk Go.Proofs.YtchbfjjeodnocaaDoor.Ord Go.Proofs.YtchbfjjeodnocaaDoor.QN
set_option linter.unusedVariables false
set_option linter.unusedSimpArgs false

set_option maxRecDepth 100000 in
set_option maxHeartbeats 20000000 in
theorem implRel_calls (A RA : Option Addr) (n c rn rc k : Nat) (rel : List S43) (l : List S102) (w : World) (hrn : rn = rel.length) (hr : Kd.C k43 w RA rel.length rel) (hrc : rel.length ≤ rc) (hb : impl_bigs.f k rel = some l) (hl : l.length ≤ 100000) (hs : ∀ x ∈ l, x.f1.size ≤ 100000) :
    Calls Tryd.prog 73 #[.agg #[.bool false, .string ⟨#[]⟩, .slice RA rn rc, .bool false, .string ⟨#[]⟩, .bool false, .string ⟨#[]⟩, .bool false, .string ⟨#[]⟩, .bool false, .string ⟨#[]⟩, .bool false, .string ⟨#[]⟩, .bool false, .string ⟨#[]⟩, .slice A n c, .slice none 0 0]] w fun e w' => ∃ (p : Nat) (A' : Option Addr) (c' : Nat), e = .returned (.agg (loR (.pointer (some ⟨p, 0, none⟩)) (.slice A' l.length c') A n c)) ∧ IsBig w' p 0 ∧ (∃ bs0, BOwn w' bs0 (.slice A' l.length c') (zsOf l)) ∧ l.length ≤ c' ∧ Below w.heap.size w w' := by
  have HR := Aside0.mk hr
  clear hr
  have b2 := below_alloc (below_alloc (Below.refl w.heap.size w) (Obj.cells #[.bool false, .string ⟨#[]⟩, .slice RA rn rc, .bool false, .string ⟨#[]⟩, .bool false, .string ⟨#[]⟩, .bool false, .string ⟨#[]⟩, .bool false, .string ⟨#[]⟩, .bool false, .string ⟨#[]⟩, .bool false, .string ⟨#[]⟩, .slice A n c, .slice none 0 0] 48)) (Obj.cells #[.pointer none, .slice none 0 0, .string ⟨#[]⟩, .pointer none, .string ⟨#[]⟩, .pointer none, .string ⟨#[]⟩, .pointer none, .slice none 0 0, .slice none 0 0] 96)
  have k1 : ((w.alloc (Obj.cells #[.bool false, .string ⟨#[]⟩, .slice RA rn rc, .bool false, .string ⟨#[]⟩, .bool false, .string ⟨#[]⟩, .bool false, .string ⟨#[]⟩, .bool false, .string ⟨#[]⟩, .bool false, .string ⟨#[]⟩, .bool false, .string ⟨#[]⟩, .slice A n c, .slice none 0 0] 48)).alloc (Obj.cells #[.pointer none, .slice none 0 0, .string ⟨#[]⟩, .pointer none, .string ⟨#[]⟩, .pointer none, .string ⟨#[]⟩, .pointer none, .slice none 0 0, .slice none 0 0] 96)).heap[w.heap.size]? = some (Obj.cells #[.bool false, .string ⟨#[]⟩, .slice RA rn rc, .bool false, .string ⟨#[]⟩, .bool false, .string ⟨#[]⟩, .bool false, .string ⟨#[]⟩, .bool false, .string ⟨#[]⟩, .bool false, .string ⟨#[]⟩, .bool false, .string ⟨#[]⟩, .slice A n c, .slice none 0 0] 48) := blk_alloc (blk_new w _) _
  have m1 : ((w.alloc (Obj.cells #[.bool false, .string ⟨#[]⟩, .slice RA rn rc, .bool false, .string ⟨#[]⟩, .bool false, .string ⟨#[]⟩, .bool false, .string ⟨#[]⟩, .bool false, .string ⟨#[]⟩, .bool false, .string ⟨#[]⟩, .bool false, .string ⟨#[]⟩, .slice A n c, .slice none 0 0] 48)).alloc (Obj.cells #[.pointer none, .slice none 0 0, .string ⟨#[]⟩, .pointer none, .string ⟨#[]⟩, .pointer none, .string ⟨#[]⟩, .pointer none, .slice none 0 0, .slice none 0 0] 96)).heap[w.heap.size + 1]? = some (Obj.cells #[.pointer none, .slice none 0 0, .string ⟨#[]⟩, .pointer none, .string ⟨#[]⟩, .pointer none, .string ⟨#[]⟩, .pointer none, .slice none 0 0, .slice none 0 0] 96) := by
    have := blk_new (w.alloc (Obj.cells #[.bool false, .string ⟨#[]⟩, .slice RA rn rc, .bool false, .string ⟨#[]⟩, .bool false, .string ⟨#[]⟩, .bool false, .string ⟨#[]⟩, .bool false, .string ⟨#[]⟩, .bool false, .string ⟨#[]⟩, .bool false, .string ⟨#[]⟩, .slice A n c, .slice none 0 0] 48)) (Obj.cells #[.pointer none, .slice none 0 0, .string ⟨#[]⟩, .pointer none, .string ⟨#[]⟩, .pointer none, .string ⟨#[]⟩, .pointer none, .slice none 0 0, .slice none 0 0] 96)
    simpa using this
  have lz := implLetter_zero
  have bn : ∀ w' : World, Below w.heap.size w w' → Calls Tryd.prog 112 #[.slice RA rn rc] w' fun e w'' => ∃ (A2 : Option Addr) (c2 : Nat), e = .returned (.slice A2 l.length c2) ∧ Kd.C k102 w'' A2 l.length l ∧ Below w'.heap.size w' w'' := fun w' d => by
    rw [hrn]
    refine (impl_bigs.calls k RA rc rel l w' (Kd.C_below HR.out d) hrc hb).mono ?_
    rintro e w'' ⟨v, rfl, ho, d2⟩
    obtain ⟨A2, c2, rfl, _, h2⟩ := Kd.R_reads ho
    exact ⟨A2, c2, rfl, h2, d2⟩
  have pv : ∀ (A2 : Option Addr) (c2 : Nat) (w' : World), Kd.C k102 w' A2 l.length l → Calls Tryd.prog 111 #[.agg #[.bool false, .string ⟨#[]⟩, .slice A2 l.length c2, .bool false, .string ⟨#[]⟩, .bool false, .string ⟨#[]⟩, .bool false, .string ⟨#[]⟩, .bool false, .string ⟨#[]⟩, .bool false, .string ⟨#[]⟩, .bool false, .string ⟨#[]⟩, .slice A n c, .slice none 0 0]] w' fun e w'' => ∃ (p : Nat) (A' : Option Addr) (c' : Nat), e = .returned (.agg #[.pointer (some ⟨p, 0, none⟩), .slice A' l.length c', .string ⟨#[]⟩, .pointer none, .string ⟨#[]⟩, .pointer none, .string ⟨#[]⟩, .pointer none, .slice A n c, .slice none 0 0]) ∧ IsBig w'' p 0 ∧ (∃ bs0, BOwn w'' bs0 (.slice A' l.length c') (zsOf l)) ∧ l.length ≤ c' ∧ Below w'.heap.size w' w'' := fun A2 c2 w' h => pyRel_calls A A2 n c l.length c2 l w' rfl h hl hs
  clear hrn hs hl hb
  go_enter Tryd.func73, Tryd.ntmps73
  go_wp2_with fail
  obtain ⟨W, eW⟩ : ∃ W, W = ((w.alloc (Obj.cells #[.bool false, .string ⟨#[]⟩, .slice RA rn rc, .bool false, .string ⟨#[]⟩, .bool false, .string ⟨#[]⟩, .bool false, .string ⟨#[]⟩, .bool false, .string ⟨#[]⟩, .bool false, .string ⟨#[]⟩, .bool false, .string ⟨#[]⟩, .slice A n c, .slice none 0 0] 48)).alloc (Obj.cells #[.pointer none, .slice none 0 0, .string ⟨#[]⟩, .pointer none, .string ⟨#[]⟩, .pointer none, .string ⟨#[]⟩, .pointer none, .slice none 0 0, .slice none 0 0] 96)) := ⟨_, rfl⟩
  rw [← eW] at b2 k1 m1 ⊢
  have HS := prMk (A := A) (RA := RA) (n := n) (c := c) (rn := rn) (rc := rc) (w0 := w) (w1 := W) ⟨blk_cell k1 0, blk_cell k1 1, blk_cell k1 2, blk_cell k1 3, blk_cell k1 4, blk_cell k1 5, blk_cell k1 6, blk_cell k1 7, blk_cell k1 8, blk_cell k1 9, blk_cell k1 10, blk_cell k1 11, blk_cell k1 12, blk_cell k1 13, blk_cell k1 14, blk_cell k1 15, blk_cell k1 16⟩ ⟨_, _, _, _, _, _, _, _, _, _, m1⟩ b2
  have HD := prS HS (Below.drew (Below.refl _ _))
  have B2 := Aside0.mk b2
  clear k1 m1 eW b2 HS
  go_region_held3 (fun w' => w'.cell? ⟨w.heap.size, 0, none⟩ = some (.bool false) ∧ w'.cell? ⟨w.heap.size, 1, none⟩ = some (.string ⟨#[]⟩) ∧ w'.cell? ⟨w.heap.size, 2, none⟩ = some (.slice RA rn rc) ∧ w'.cell? ⟨w.heap.size, 3, none⟩ = some (.bool false) ∧ w'.cell? ⟨w.heap.size, 4, none⟩ = some (.string ⟨#[]⟩) ∧ w'.cell? ⟨w.heap.size, 5, none⟩ = some (.bool false) ∧ w'.cell? ⟨w.heap.size, 6, none⟩ = some (.string ⟨#[]⟩) ∧ w'.cell? ⟨w.heap.size, 7, none⟩ = some (.bool false) ∧ w'.cell? ⟨w.heap.size, 8, none⟩ = some (.string ⟨#[]⟩) ∧ w'.cell? ⟨w.heap.size, 9, none⟩ = some (.bool false) ∧ w'.cell? ⟨w.heap.size, 10, none⟩ = some (.string ⟨#[]⟩) ∧ w'.cell? ⟨w.heap.size, 11, none⟩ = some (.bool false) ∧ w'.cell? ⟨w.heap.size, 12, none⟩ = some (.string ⟨#[]⟩) ∧ w'.cell? ⟨w.heap.size, 13, none⟩ = some (.bool false) ∧ w'.cell? ⟨w.heap.size, 14, none⟩ = some (.string ⟨#[]⟩) ∧ w'.cell? ⟨w.heap.size, 15, none⟩ = some (.slice A n c) ∧ w'.cell? ⟨w.heap.size, 16, none⟩ = some (.slice none 0 0) ∧ w.heap.size + 1 < w'.heap.size ∧ w'.cell? ⟨w.heap.size + 1, 0, none⟩ = some (gv (w.heap.size + 1) 0 w') ∧ w'.cell? ⟨w.heap.size + 1, 1, none⟩ = some (gv (w.heap.size + 1) 1 w') ∧ w'.cell? ⟨w.heap.size + 1, 2, none⟩ = some (gv (w.heap.size + 1) 2 w') ∧ w'.cell? ⟨w.heap.size + 1, 3, none⟩ = some (gv (w.heap.size + 1) 3 w') ∧ w'.cell? ⟨w.heap.size + 1, 4, none⟩ = some (gv (w.heap.size + 1) 4 w') ∧ w'.cell? ⟨w.heap.size + 1, 5, none⟩ = some (gv (w.heap.size + 1) 5 w') ∧ w'.cell? ⟨w.heap.size + 1, 6, none⟩ = some (gv (w.heap.size + 1) 6 w') ∧ w'.cell? ⟨w.heap.size + 1, 7, none⟩ = some (gv (w.heap.size + 1) 7 w') ∧ w'.cell? ⟨w.heap.size + 1, 8, none⟩ = some (gv (w.heap.size + 1) 8 w') ∧ w'.cell? ⟨w.heap.size + 1, 9, none⟩ = some (gv (w.heap.size + 1) 9 w') ∧ w'.frozen? ⟨w.heap.size + 1, 0, none⟩ = false ∧ w'.frozen? ⟨w.heap.size + 1, 1, none⟩ = false ∧ w'.frozen? ⟨w.heap.size + 1, 2, none⟩ = false ∧ w'.frozen? ⟨w.heap.size + 1, 3, none⟩ = false ∧ w'.frozen? ⟨w.heap.size + 1, 4, none⟩ = false ∧ w'.frozen? ⟨w.heap.size + 1, 5, none⟩ = false ∧ w'.frozen? ⟨w.heap.size + 1, 6, none⟩ = false ∧ w'.frozen? ⟨w.heap.size + 1, 7, none⟩ = false ∧ w'.frozen? ⟨w.heap.size + 1, 8, none⟩ = false ∧ w'.frozen? ⟨w.heap.size + 1, 9, none⟩ = false ∧ (∃ x0 x1 x2 x3 x4 x5 x6 x7 x8 x9, w'.heap[w.heap.size + 1]? = some (Obj.cells #[x0, x1, x2, x3, x4, x5, x6, x7, x8, x9] 96 (0, 0))) ∧ Below w.heap.size w w') (first | (with_reducible assumption) | (with_reducible exact prS (by with_reducible assumption) (by with_reducible assumption)) | (with_reducible exact prStore _ _ _ _ _ _ _ _ _ _ (by with_reducible assumption))) (first | (go_at_call 112; refine (bn _ ?hz).mono ?_; (case hz => first | with_reducible assumption | exact Below.drew B2.out | exact B2.out); rintro e w1 ⟨A2, c2, rfl, h2, d1⟩; have R2 := Aside0.mk h2; clear h2) | (go_at_call 113; refine (lz _).mono ?_; rintro e w1 ⟨rfl, d1⟩) | (go_at_call 111; refine (pv A2 c2 _ ?hz).mono ?_; (case hz => repeat (first | with_reducible exact R2.out | refine Kd.C_below ?_ (by with_reducible assumption))); rintro e w1 ⟨p, A', c', rfl, hp, ho, hc', d1⟩; have P1 := Aside0.mk hp; have R1 := Aside0.mk ho; clear hp ho))
  have hs : w1.cell? ⟨w.heap.size, 0, none⟩ = some (.bool false) ∧ w1.cell? ⟨w.heap.size, 1, none⟩ = some (.string ⟨#[]⟩) ∧ w1.cell? ⟨w.heap.size, 2, none⟩ = some (.slice RA rn rc) ∧ w1.cell? ⟨w.heap.size, 3, none⟩ = some (.bool false) ∧ w1.cell? ⟨w.heap.size, 4, none⟩ = some (.string ⟨#[]⟩) ∧ w1.cell? ⟨w.heap.size, 5, none⟩ = some (.bool false) ∧ w1.cell? ⟨w.heap.size, 6, none⟩ = some (.string ⟨#[]⟩) ∧ w1.cell? ⟨w.heap.size, 7, none⟩ = some (.bool false) ∧ w1.cell? ⟨w.heap.size, 8, none⟩ = some (.string ⟨#[]⟩) ∧ w1.cell? ⟨w.heap.size, 9, none⟩ = some (.bool false) ∧ w1.cell? ⟨w.heap.size, 10, none⟩ = some (.string ⟨#[]⟩) ∧ w1.cell? ⟨w.heap.size, 11, none⟩ = some (.bool false) ∧ w1.cell? ⟨w.heap.size, 12, none⟩ = some (.string ⟨#[]⟩) ∧ w1.cell? ⟨w.heap.size, 13, none⟩ = some (.bool false) ∧ w1.cell? ⟨w.heap.size, 14, none⟩ = some (.string ⟨#[]⟩) ∧ w1.cell? ⟨w.heap.size, 15, none⟩ = some (.slice A n c) ∧ w1.cell? ⟨w.heap.size, 16, none⟩ = some (.slice none 0 0) ∧ w.heap.size + 1 < w1.heap.size ∧ w1.cell? ⟨w.heap.size + 1, 0, none⟩ = some (gv (w.heap.size + 1) 0 w1) ∧ w1.cell? ⟨w.heap.size + 1, 1, none⟩ = some (gv (w.heap.size + 1) 1 w1) ∧ w1.cell? ⟨w.heap.size + 1, 2, none⟩ = some (gv (w.heap.size + 1) 2 w1) ∧ w1.cell? ⟨w.heap.size + 1, 3, none⟩ = some (gv (w.heap.size + 1) 3 w1) ∧ w1.cell? ⟨w.heap.size + 1, 4, none⟩ = some (gv (w.heap.size + 1) 4 w1) ∧ w1.cell? ⟨w.heap.size + 1, 5, none⟩ = some (gv (w.heap.size + 1) 5 w1) ∧ w1.cell? ⟨w.heap.size + 1, 6, none⟩ = some (gv (w.heap.size + 1) 6 w1) ∧ w1.cell? ⟨w.heap.size + 1, 7, none⟩ = some (gv (w.heap.size + 1) 7 w1) ∧ w1.cell? ⟨w.heap.size + 1, 8, none⟩ = some (gv (w.heap.size + 1) 8 w1) ∧ w1.cell? ⟨w.heap.size + 1, 9, none⟩ = some (gv (w.heap.size + 1) 9 w1) ∧ w1.frozen? ⟨w.heap.size + 1, 0, none⟩ = false ∧ w1.frozen? ⟨w.heap.size + 1, 1, none⟩ = false ∧ w1.frozen? ⟨w.heap.size + 1, 2, none⟩ = false ∧ w1.frozen? ⟨w.heap.size + 1, 3, none⟩ = false ∧ w1.frozen? ⟨w.heap.size + 1, 4, none⟩ = false ∧ w1.frozen? ⟨w.heap.size + 1, 5, none⟩ = false ∧ w1.frozen? ⟨w.heap.size + 1, 6, none⟩ = false ∧ w1.frozen? ⟨w.heap.size + 1, 7, none⟩ = false ∧ w1.frozen? ⟨w.heap.size + 1, 8, none⟩ = false ∧ w1.frozen? ⟨w.heap.size + 1, 9, none⟩ = false ∧ (∃ x0 x1 x2 x3 x4 x5 x6 x7 x8 x9, w1.heap[w.heap.size + 1]? = some (Obj.cells #[x0, x1, x2, x3, x4, x5, x6, x7, x8, x9] 96 (0, 0))) ∧ Below w.heap.size w w1 := by
    refine prS ?_ (by with_reducible assumption)
    refine prS ?_ (by with_reducible assumption)
    refine prS ?_ (by with_reducible assumption)
    refine prS ?_ (by with_reducible assumption)
    exact prS HD (by with_reducible assumption)
  obtain ⟨bs0, hR⟩ := R1.out
  have PK := Aside0.mk (@prKeep A RA n c rn rc w w1 (.pointer (some ⟨p, 0, none⟩)) (.slice A' l.length c') (.string ⟨#[]⟩) (.pointer none) (.string ⟨#[]⟩) (.pointer none) (.string ⟨#[]⟩) (.pointer none) (.slice A n c) (.slice none 0 0) (fun w' => IsBig w' p 0 ∧ BOwn w' bs0 (.slice A' l.length c') (zsOf l)) (fun w' cs j u hk hF => ⟨hF.1.put hk (by decide) j u, hF.2.put hk (by decide) (by decide) j u⟩) ⟨P1.out, hR⟩ hs)
  have PV := Aside0.mk (@prPut A RA n c rn rc w w1 (.pointer (some ⟨p, 0, none⟩)) (.slice A' l.length c') (.string ⟨#[]⟩) (.pointer none) (.string ⟨#[]⟩) (.pointer none) (.string ⟨#[]⟩) (.pointer none) (.slice A n c) (.slice none 0 0) hs)
  clear hs HD hR
  go_wp2_with fail
  exact bodyPost_ret (results_cell_row rfl _ _ (w.heap.size + 1) 96 (loR (.pointer (some ⟨p, 0, none⟩)) (.slice A' l.length c') A n c) (0, 0) _ rfl PV.out.1 Tryd.underlying96 rfl (by kernel_rfl)) rfl ⟨p, A', c', rfl, PK.out.1, ⟨_, PK.out.2⟩, hc', PV.out.2⟩
end Go.Proofs.YtchbfjjeodnocaaDoor.Giv

namespace Go.Proofs.YtchbfjjeodnocaaDoor.Giv
open Go.RowKit Go.Proofs.YtchbfjjeodnocaaDoorW.PrintWords Go.Proofs.YtchbfjjeodnocaaDoorW.PrintLast Go.Proofs.YtchbfjjeodnocaaDoor.Pk Go.Proofs.YtchbfjjeodnocaaDoor.Ord Go.Proofs.YtchbfjjeodnocaaDoor.QN
set_option linter.unusedVariables false
set_option linter.unusedSimpArgs false
set_option maxRecDepth 100000 in
set_option maxHeartbeats 4000000 in
theorem zzLocal_calls (q0 q1 : Nat) (v0 v1 : Value) (a b : List ByteArray) (A0 A1 : Option Addr) (c0 c1 : Nat) (w : World) (hr0 : Kd.C Kd.string w A0 a.length a) (hr1 : Kd.C Kd.string w A1 b.length b) (ha : fit a = true) (hb : fit b = true) (hL : Laid w) :
    Calls Tryd.prog 72 #[.agg (loR (.pointer (some ⟨q0, 0, none⟩)) v0 A0 a.length c0), .agg (loR (.pointer (some ⟨q1, 0, none⟩)) v1 A1 b.length c1)] w fun e w' => e = .returned (.int .i64 (lexL pyC (tl a) (tl b))) ∧ Below w.heap.size w w' := by
  have lc := fun (w' : World) (d : Below w.heap.size w w') => local_calls (.pointer (some ⟨q0, 0, none⟩)) (.pointer (some ⟨q1, 0, none⟩)) v0 v1 a b A0 A1 c0 c1 w' (Kd.C_below hr0 d) (Kd.C_below hr1 d) ha hb (hL.below d)
  have b2 := Aside0.mk (below_alloc (below_alloc (Below.refl w.heap.size w) (Obj.cells (loR (.pointer (some ⟨q0, 0, none⟩)) v0 A0 a.length c0) 96)) (Obj.cells (loR (.pointer (some ⟨q1, 0, none⟩)) v1 A1 b.length c1) 96))
  clear hr0 hr1 ha hb hL
  go_enter Tryd.func72, Tryd.ntmps72
  go_wp2_with (first | (go_at_call 110; refine (lc _ b2.out).mono ?_; rintro e w1 ⟨rfl, d1⟩; have D1 := Aside0.mk (below_then b2.out b2.out.size d1); clear d1))
  go_ret
  exact ⟨rfl, D1.out⟩
set_option maxRecDepth 100000 in
set_option maxHeartbeats 4000000 in
theorem implLocal_calls (a b : List ByteArray) (A0 A1 : Option Addr) (c0 c1 : Nat) (w : World) (hr0 : Kd.C Kd.string w A0 a.length a) (hr1 : Kd.C Kd.string w A1 b.length b) (ha : fit a = true) (hb : fit b = true) (hL : Laid w) :
    Calls Tryd.prog 33 #[.slice A0 a.length c0, .slice A1 b.length c1] w fun e w' => e = .returned (.int .i64 (lexL pyC (tl a) (tl b))) ∧ Below w.heap.size w w' := by
  have pn : ∀ (A : Option Addr) (n c : Nat) (w' : World), Calls Tryd.prog 73 #[.agg #[.bool false, .string ⟨#[]⟩, .slice none 0 0, .bool false, .string ⟨#[]⟩, .bool false, .string ⟨#[]⟩, .bool false, .string ⟨#[]⟩, .bool false, .string ⟨#[]⟩, .bool false, .string ⟨#[]⟩, .bool false, .string ⟨#[]⟩, .slice A n c, .slice none 0 0]] w' fun e w'' => ∃ (q : Nat) (A' : Option Addr) (c' : Nat), e = .returned (.agg (loR (.pointer (some ⟨q, 0, none⟩)) (.slice A' 0 c') A n c)) ∧ Below w'.heap.size w' w'' := fun A n c w' => by
    refine (implRel_calls A none n c 0 0 1 [] [] w' rfl (Kd.C_nil _ _) (Nat.le_refl _) (by simp [impl_bigs.f, impl_bigs.l0]) (by simp) (by simp)).mono ?_
    rintro e w'' ⟨q, A', c', rfl, _, _, _, d⟩
    exact ⟨q, A', c', rfl, d⟩
  have p0 := fun w' => pn A0 a.length c0 w'
  have p1 := fun w' => pn A1 b.length c1 w'
  have lc := fun (q0 q1 : Nat) (v0 v1 : Value) (w' : World) (d : Below w.heap.size w w') => zzLocal_calls q0 q1 v0 v1 a b A0 A1 c0 c1 w' (Kd.C_below hr0 d) (Kd.C_below hr1 d) ha hb (hL.below d)
  clear hr0 hr1 ha hb hL pn
  go_enter Tryd.func33, Tryd.ntmps33
  go_wp2_with (first | (go_at_call 73; refine (p0 _).mono ?_; rintro e w1 ⟨q0, B0, f0, rfl, d1⟩; have D1 := Aside0.mk d1; clear d1 p0) | (go_at_call 73; refine (p1 _).mono ?_; rintro e w2 ⟨q1, B1, f1, rfl, d2⟩; have D2 := Aside0.mk (below_then D1.out D1.out.size d2); clear d2 p1) | (go_at_call 72; refine (lc _ _ _ _ _ D2.out).mono ?_; rintro e w3 ⟨rfl, d3⟩; have D3 := Aside0.mk (below_then D2.out D2.out.size d3); clear d3))
  go_ret
  exact ⟨rfl, D3.out⟩
def impl_PyPILocal.f (l0 l1 : List ByteArray) : Option Int := if fit l0 = true ∧ fit l1 = true then some (lexL pyC (tl l0) (tl l1)) else none
theorem impl_PyPILocal.calls (A0 : Option Addr) (c0 : Nat) (l0 : List ByteArray) (A1 : Option Addr) (c1 : Nat) (l1 : List ByteArray) (r : Int) (w : World) (hr0 : Kd.C Kd.string w A0 l0.length l0) (hc0 : l0.length ≤ c0) (hr1 : Kd.C Kd.string w A1 l1.length l1) (hc1 : l1.length ≤ c1) (h : impl_PyPILocal.f l0 l1 = some r) (hL : Laid w) :
    Calls Tryd.prog 33 #[.slice A0 l0.length c0, .slice A1 l1.length c1] w fun e w' => e = .returned (.int .i64 r) ∧ Below w.heap.size w w' := by
  unfold impl_PyPILocal.f at h
  split at h
  · next hc =>
    obtain rfl := Option.some.inj h
    exact implLocal_calls l0 l1 A0 A1 c0 c1 w hr0 hr1 hc.1 hc.2 hL
  · exact absurd h (by simp)
theorem pyC_fun : pyC = Seg.segC := funext fun x => funext fun y => pyC_seg x y
end Go.Proofs.YtchbfjjeodnocaaDoor.Giv

namespace Go.Proofs.YtchbfjjeodnocaaDoor.Giv
open Go.RowKit Go.Proofs.YtchbfjjeodnocaaDoorW.PrintWords Go.Proofs.YtchbfjjeodnocaaDoorW.PrintLast Go.Proofs.YtchbfjjeodnocaaDoor.Pk Go.Proofs.YtchbfjjeodnocaaDoor.Ord Go.Proofs.YtchbfjjeodnocaaDoor.QN
set_option linter.unusedVariables false
set_option linter.unusedSimpArgs false

set_option maxRecDepth 100000 in
set_option maxHeartbeats 4000000 in
theorem legacy0_calls (e0 e1 v0 v1 : Value) (A0 A1 : Option Addr) (n0 n1 c0 c1 : Nat) (w : World) :
    Calls Tryd.prog 173 #[.agg (loR e0 v0 A0 n0 c0), .agg (loR e1 v1 A1 n1 c1)] w fun e w' => e = .returned (.int .i64 0) ∧ Below w.heap.size w w' := by
  have b2 := below_alloc (below_alloc (Below.refl w.heap.size w) (Obj.cells #[e0, v0, .string ⟨#[]⟩, .pointer none, .string ⟨#[]⟩, .pointer none, .string ⟨#[]⟩, .pointer none, .slice A0 n0 c0, .slice none 0 0] 96)) (Obj.cells #[e1, v1, .string ⟨#[]⟩, .pointer none, .string ⟨#[]⟩, .pointer none, .string ⟨#[]⟩, .pointer none, .slice A1 n1 c1, .slice none 0 0] 96)
  have k1 : ((w.alloc (Obj.cells #[e0, v0, .string ⟨#[]⟩, .pointer none, .string ⟨#[]⟩, .pointer none, .string ⟨#[]⟩, .pointer none, .slice A0 n0 c0, .slice none 0 0] 96)).alloc (Obj.cells #[e1, v1, .string ⟨#[]⟩, .pointer none, .string ⟨#[]⟩, .pointer none, .string ⟨#[]⟩, .pointer none, .slice A1 n1 c1, .slice none 0 0] 96)).heap[w.heap.size]? = some (Obj.cells #[e0, v0, .string ⟨#[]⟩, .pointer none, .string ⟨#[]⟩, .pointer none, .string ⟨#[]⟩, .pointer none, .slice A0 n0 c0, .slice none 0 0] 96) := blk_alloc (blk_new w _) _
  have m1 : ((w.alloc (Obj.cells #[e0, v0, .string ⟨#[]⟩, .pointer none, .string ⟨#[]⟩, .pointer none, .string ⟨#[]⟩, .pointer none, .slice A0 n0 c0, .slice none 0 0] 96)).alloc (Obj.cells #[e1, v1, .string ⟨#[]⟩, .pointer none, .string ⟨#[]⟩, .pointer none, .string ⟨#[]⟩, .pointer none, .slice A1 n1 c1, .slice none 0 0] 96)).heap[w.heap.size + 1]? = some (Obj.cells #[e1, v1, .string ⟨#[]⟩, .pointer none, .string ⟨#[]⟩, .pointer none, .string ⟨#[]⟩, .pointer none, .slice A1 n1 c1, .slice none 0 0] 96) := by
    have := blk_new (w.alloc (Obj.cells #[e0, v0, .string ⟨#[]⟩, .pointer none, .string ⟨#[]⟩, .pointer none, .string ⟨#[]⟩, .pointer none, .slice A0 n0 c0, .slice none 0 0] 96)) (Obj.cells #[e1, v1, .string ⟨#[]⟩, .pointer none, .string ⟨#[]⟩, .pointer none, .string ⟨#[]⟩, .pointer none, .slice A1 n1 c1, .slice none 0 0] 96)
    simpa using this
  have q0 : ((w.alloc (Obj.cells #[e0, v0, .string ⟨#[]⟩, .pointer none, .string ⟨#[]⟩, .pointer none, .string ⟨#[]⟩, .pointer none, .slice A0 n0 c0, .slice none 0 0] 96)).alloc (Obj.cells #[e1, v1, .string ⟨#[]⟩, .pointer none, .string ⟨#[]⟩, .pointer none, .string ⟨#[]⟩, .pointer none, .slice A1 n1 c1, .slice none 0 0] 96)).cell? ⟨w.heap.size, 9, none⟩ = some (.slice none 0 0) := blk_cell k1 9
  have q1 : ((w.alloc (Obj.cells #[e0, v0, .string ⟨#[]⟩, .pointer none, .string ⟨#[]⟩, .pointer none, .string ⟨#[]⟩, .pointer none, .slice A0 n0 c0, .slice none 0 0] 96)).alloc (Obj.cells #[e1, v1, .string ⟨#[]⟩, .pointer none, .string ⟨#[]⟩, .pointer none, .string ⟨#[]⟩, .pointer none, .slice A1 n1 c1, .slice none 0 0] 96)).cell? ⟨w.heap.size + 1, 9, none⟩ = some (.slice none 0 0) := blk_cell m1 9
  have B2 := Aside0.mk b2
  clear b2 k1 m1
  go_enter Tryd.func173, Tryd.ntmps173
  go_wp2_with fail
  go_ret
  exact ⟨rfl, B2.out⟩
set_option maxRecDepth 100000 in
set_option maxHeartbeats 4000000 in
theorem epoch0_calls (p q : Nat) (v0 v1 : Value) (A0 A1 : Option Addr) (n0 n1 c0 c1 : Nat) (w : World) (hp : IsBig w p 0) (hq : IsBig w q 0) :
    Calls Tryd.prog 174 #[.agg (loR (.pointer (some ⟨p, 0, none⟩)) v0 A0 n0 c0), .agg (loR (.pointer (some ⟨q, 0, none⟩)) v1 A1 n1 c1)] w fun e w' => e = .returned (.int .i64 0) ∧ Below w.heap.size w w' := by
  have b2 := below_alloc (below_alloc (Below.refl w.heap.size w) (Obj.cells #[(.pointer (some ⟨p, 0, none⟩)), v0, .string ⟨#[]⟩, .pointer none, .string ⟨#[]⟩, .pointer none, .string ⟨#[]⟩, .pointer none, .slice A0 n0 c0, .slice none 0 0] 96)) (Obj.cells #[(.pointer (some ⟨q, 0, none⟩)), v1, .string ⟨#[]⟩, .pointer none, .string ⟨#[]⟩, .pointer none, .string ⟨#[]⟩, .pointer none, .slice A1 n1 c1, .slice none 0 0] 96)
  have k1 : ((w.alloc (Obj.cells #[(.pointer (some ⟨p, 0, none⟩)), v0, .string ⟨#[]⟩, .pointer none, .string ⟨#[]⟩, .pointer none, .string ⟨#[]⟩, .pointer none, .slice A0 n0 c0, .slice none 0 0] 96)).alloc (Obj.cells #[(.pointer (some ⟨q, 0, none⟩)), v1, .string ⟨#[]⟩, .pointer none, .string ⟨#[]⟩, .pointer none, .string ⟨#[]⟩, .pointer none, .slice A1 n1 c1, .slice none 0 0] 96)).heap[w.heap.size]? = some (Obj.cells #[(.pointer (some ⟨p, 0, none⟩)), v0, .string ⟨#[]⟩, .pointer none, .string ⟨#[]⟩, .pointer none, .string ⟨#[]⟩, .pointer none, .slice A0 n0 c0, .slice none 0 0] 96) := blk_alloc (blk_new w _) _
  have m1 : ((w.alloc (Obj.cells #[(.pointer (some ⟨p, 0, none⟩)), v0, .string ⟨#[]⟩, .pointer none, .string ⟨#[]⟩, .pointer none, .string ⟨#[]⟩, .pointer none, .slice A0 n0 c0, .slice none 0 0] 96)).alloc (Obj.cells #[(.pointer (some ⟨q, 0, none⟩)), v1, .string ⟨#[]⟩, .pointer none, .string ⟨#[]⟩, .pointer none, .string ⟨#[]⟩, .pointer none, .slice A1 n1 c1, .slice none 0 0] 96)).heap[w.heap.size + 1]? = some (Obj.cells #[(.pointer (some ⟨q, 0, none⟩)), v1, .string ⟨#[]⟩, .pointer none, .string ⟨#[]⟩, .pointer none, .string ⟨#[]⟩, .pointer none, .slice A1 n1 c1, .slice none 0 0] 96) := by
    have := blk_new (w.alloc (Obj.cells #[(.pointer (some ⟨p, 0, none⟩)), v0, .string ⟨#[]⟩, .pointer none, .string ⟨#[]⟩, .pointer none, .string ⟨#[]⟩, .pointer none, .slice A0 n0 c0, .slice none 0 0] 96)) (Obj.cells #[(.pointer (some ⟨q, 0, none⟩)), v1, .string ⟨#[]⟩, .pointer none, .string ⟨#[]⟩, .pointer none, .string ⟨#[]⟩, .pointer none, .slice A1 n1 c1, .slice none 0 0] 96)
    simpa using this
  have q0 : ((w.alloc (Obj.cells #[(.pointer (some ⟨p, 0, none⟩)), v0, .string ⟨#[]⟩, .pointer none, .string ⟨#[]⟩, .pointer none, .string ⟨#[]⟩, .pointer none, .slice A0 n0 c0, .slice none 0 0] 96)).alloc (Obj.cells #[(.pointer (some ⟨q, 0, none⟩)), v1, .string ⟨#[]⟩, .pointer none, .string ⟨#[]⟩, .pointer none, .string ⟨#[]⟩, .pointer none, .slice A1 n1 c1, .slice none 0 0] 96)).cell? ⟨w.heap.size, 0, none⟩ = some (.pointer (some ⟨p, 0, none⟩)) := blk_cell k1 0
  have q1 : ((w.alloc (Obj.cells #[(.pointer (some ⟨p, 0, none⟩)), v0, .string ⟨#[]⟩, .pointer none, .string ⟨#[]⟩, .pointer none, .string ⟨#[]⟩, .pointer none, .slice A0 n0 c0, .slice none 0 0] 96)).alloc (Obj.cells #[(.pointer (some ⟨q, 0, none⟩)), v1, .string ⟨#[]⟩, .pointer none, .string ⟨#[]⟩, .pointer none, .string ⟨#[]⟩, .pointer none, .slice A1 n1 c1, .slice none 0 0] 96)).cell? ⟨w.heap.size + 1, 0, none⟩ = some (.pointer (some ⟨q, 0, none⟩)) := blk_cell m1 0
  have cm := fun (w' : World) (d : Below w.heap.size w w') => Cmp_calls 0 0 p q w' (hp.below d) (hq.below d)
  have B2 := Aside0.mk b2
  clear b2 k1 m1
  go_enter Tryd.func174, Tryd.ntmps174
  go_wp2_with (first | (go_at_call 130; (with_reducible refine (cm _ B2.out).mono ?_); rintro e w1 ⟨rfl, nd, rfl⟩))
  go_ret
  exact ⟨by rw [cI_zero.2 rfl]; rfl, pw_below_drewN B2.out _⟩
set_option maxRecDepth 100000 in
set_option maxHeartbeats 4000000 in
theorem release_calls (e0 e1 : Value) (R0 R1 A0 A1 : Option Addr) (d0 d1 n0 n1 c0 c1 : Nat) (l0 l1 : List Int) (w : World) (h0 : BRow w R0 l0) (h1 : BRow w R1 l1) (hl0 : l0.length ≤ 1000000) (hl1 : l1.length ≤ 1000000) :
    Calls Tryd.prog 175 #[.agg (loR e0 (.slice R0 l0.length d0) A0 n0 c0), .agg (loR e1 (.slice R1 l1.length d1) A1 n1 c1)] w fun e w' => e = .returned (.int .i64 (padL cI 0 l0 l1)) ∧ Below w.heap.size w w' := by
  have b2 := below_alloc (below_alloc (Below.refl w.heap.size w) (Obj.cells #[e0, (.slice R0 l0.length d0), .string ⟨#[]⟩, .pointer none, .string ⟨#[]⟩, .pointer none, .string ⟨#[]⟩, .pointer none, .slice A0 n0 c0, .slice none 0 0] 96)) (Obj.cells #[e1, (.slice R1 l1.length d1), .string ⟨#[]⟩, .pointer none, .string ⟨#[]⟩, .pointer none, .string ⟨#[]⟩, .pointer none, .slice A1 n1 c1, .slice none 0 0] 96)
  have k1 : ((w.alloc (Obj.cells #[e0, (.slice R0 l0.length d0), .string ⟨#[]⟩, .pointer none, .string ⟨#[]⟩, .pointer none, .string ⟨#[]⟩, .pointer none, .slice A0 n0 c0, .slice none 0 0] 96)).alloc (Obj.cells #[e1, (.slice R1 l1.length d1), .string ⟨#[]⟩, .pointer none, .string ⟨#[]⟩, .pointer none, .string ⟨#[]⟩, .pointer none, .slice A1 n1 c1, .slice none 0 0] 96)).heap[w.heap.size]? = some (Obj.cells #[e0, (.slice R0 l0.length d0), .string ⟨#[]⟩, .pointer none, .string ⟨#[]⟩, .pointer none, .string ⟨#[]⟩, .pointer none, .slice A0 n0 c0, .slice none 0 0] 96) := blk_alloc (blk_new w _) _
  have m1 : ((w.alloc (Obj.cells #[e0, (.slice R0 l0.length d0), .string ⟨#[]⟩, .pointer none, .string ⟨#[]⟩, .pointer none, .string ⟨#[]⟩, .pointer none, .slice A0 n0 c0, .slice none 0 0] 96)).alloc (Obj.cells #[e1, (.slice R1 l1.length d1), .string ⟨#[]⟩, .pointer none, .string ⟨#[]⟩, .pointer none, .string ⟨#[]⟩, .pointer none, .slice A1 n1 c1, .slice none 0 0] 96)).heap[w.heap.size + 1]? = some (Obj.cells #[e1, (.slice R1 l1.length d1), .string ⟨#[]⟩, .pointer none, .string ⟨#[]⟩, .pointer none, .string ⟨#[]⟩, .pointer none, .slice A1 n1 c1, .slice none 0 0] 96) := by
    have := blk_new (w.alloc (Obj.cells #[e0, (.slice R0 l0.length d0), .string ⟨#[]⟩, .pointer none, .string ⟨#[]⟩, .pointer none, .string ⟨#[]⟩, .pointer none, .slice A0 n0 c0, .slice none 0 0] 96)) (Obj.cells #[e1, (.slice R1 l1.length d1), .string ⟨#[]⟩, .pointer none, .string ⟨#[]⟩, .pointer none, .string ⟨#[]⟩, .pointer none, .slice A1 n1 c1, .slice none 0 0] 96)
    simpa using this
  have q0 : ((w.alloc (Obj.cells #[e0, (.slice R0 l0.length d0), .string ⟨#[]⟩, .pointer none, .string ⟨#[]⟩, .pointer none, .string ⟨#[]⟩, .pointer none, .slice A0 n0 c0, .slice none 0 0] 96)).alloc (Obj.cells #[e1, (.slice R1 l1.length d1), .string ⟨#[]⟩, .pointer none, .string ⟨#[]⟩, .pointer none, .string ⟨#[]⟩, .pointer none, .slice A1 n1 c1, .slice none 0 0] 96)).cell? ⟨w.heap.size, 1, none⟩ = some (.slice R0 l0.length d0) := blk_cell k1 1
  have q1 : ((w.alloc (Obj.cells #[e0, (.slice R0 l0.length d0), .string ⟨#[]⟩, .pointer none, .string ⟨#[]⟩, .pointer none, .string ⟨#[]⟩, .pointer none, .slice A0 n0 c0, .slice none 0 0] 96)).alloc (Obj.cells #[e1, (.slice R1 l1.length d1), .string ⟨#[]⟩, .pointer none, .string ⟨#[]⟩, .pointer none, .string ⟨#[]⟩, .pointer none, .slice A1 n1 c1, .slice none 0 0] 96)).cell? ⟨w.heap.size + 1, 1, none⟩ = some (.slice R1 l1.length d1) := blk_cell m1 1
  have cm := fun (w' : World) (d : Below w.heap.size w w') (hc : w'.cell? ⟨w.heap.size, 1, none⟩ = some (.slice R0 l0.length d0)) => compCmp_calls w.heap.size 1 R0 R1 d0 d1 l0 l1 w' hc (h0.below d) (h1.below d) hl0 hl1
  have B2 := Aside0.mk b2
  have Q0 := Aside0.mk q0
  clear b2 k1 m1
  go_enter Tryd.func175, Tryd.ntmps175
  go_wp2_with (first | (go_at_call 142; (with_reducible refine (cm _ B2.out Q0.out).mono ?_); rintro e w1 ⟨rfl, d1⟩; have D1 := Aside0.mk (below_then B2.out B2.out.size d1); clear d1))
  go_ret
  exact ⟨rfl, D1.out⟩
set_option maxRecDepth 100000 in
set_option maxHeartbeats 4000000 in
theorem version_calls (p q : Nat) (R0 R1 A0 A1 : Option Addr) (d0 d1 n0 n1 c0 c1 : Nat) (l0 l1 : List Int) (w : World) (hp : IsBig w p 0) (hq : IsBig w q 0) (h0 : BRow w R0 l0) (h1 : BRow w R1 l1) (hl0 : l0.length ≤ 1000000) (hl1 : l1.length ≤ 1000000) (hne : padL cI 0 l0 l1 ≠ 0) :
    Calls Tryd.prog 154 #[.agg (loR (.pointer (some ⟨p, 0, none⟩)) (.slice R0 l0.length d0) A0 n0 c0), .agg (loR (.pointer (some ⟨q, 0, none⟩)) (.slice R1 l1.length d1) A1 n1 c1)] w fun e w' => e = .returned (.int .i64 (padL cI 0 l0 l1)) ∧ Below w.heap.size w w' := by
  have b2 := below_alloc (below_alloc (Below.refl w.heap.size w) (Obj.cells #[.pointer (some ⟨p, 0, none⟩), .slice R0 l0.length d0, .string ⟨#[]⟩, .pointer none, .string ⟨#[]⟩, .pointer none, .string ⟨#[]⟩, .pointer none, .slice A0 n0 c0, .slice none 0 0] 96)) (Obj.cells #[.pointer (some ⟨q, 0, none⟩), .slice R1 l1.length d1, .string ⟨#[]⟩, .pointer none, .string ⟨#[]⟩, .pointer none, .string ⟨#[]⟩, .pointer none, .slice A1 n1 c1, .slice none 0 0] 96)
  have k1 : ((w.alloc (Obj.cells #[.pointer (some ⟨p, 0, none⟩), .slice R0 l0.length d0, .string ⟨#[]⟩, .pointer none, .string ⟨#[]⟩, .pointer none, .string ⟨#[]⟩, .pointer none, .slice A0 n0 c0, .slice none 0 0] 96)).alloc (Obj.cells #[.pointer (some ⟨q, 0, none⟩), .slice R1 l1.length d1, .string ⟨#[]⟩, .pointer none, .string ⟨#[]⟩, .pointer none, .string ⟨#[]⟩, .pointer none, .slice A1 n1 c1, .slice none 0 0] 96)).heap[w.heap.size]? = some (Obj.cells #[.pointer (some ⟨p, 0, none⟩), .slice R0 l0.length d0, .string ⟨#[]⟩, .pointer none, .string ⟨#[]⟩, .pointer none, .string ⟨#[]⟩, .pointer none, .slice A0 n0 c0, .slice none 0 0] 96) := blk_alloc (blk_new w _) _
  have m1 : ((w.alloc (Obj.cells #[.pointer (some ⟨p, 0, none⟩), .slice R0 l0.length d0, .string ⟨#[]⟩, .pointer none, .string ⟨#[]⟩, .pointer none, .string ⟨#[]⟩, .pointer none, .slice A0 n0 c0, .slice none 0 0] 96)).alloc (Obj.cells #[.pointer (some ⟨q, 0, none⟩), .slice R1 l1.length d1, .string ⟨#[]⟩, .pointer none, .string ⟨#[]⟩, .pointer none, .string ⟨#[]⟩, .pointer none, .slice A1 n1 c1, .slice none 0 0] 96)).heap[w.heap.size + 1]? = some (Obj.cells #[.pointer (some ⟨q, 0, none⟩), .slice R1 l1.length d1, .string ⟨#[]⟩, .pointer none, .string ⟨#[]⟩, .pointer none, .string ⟨#[]⟩, .pointer none, .slice A1 n1 c1, .slice none 0 0] 96) := by
    have := blk_new (w.alloc (Obj.cells #[.pointer (some ⟨p, 0, none⟩), .slice R0 l0.length d0, .string ⟨#[]⟩, .pointer none, .string ⟨#[]⟩, .pointer none, .string ⟨#[]⟩, .pointer none, .slice A0 n0 c0, .slice none 0 0] 96)) (Obj.cells #[.pointer (some ⟨q, 0, none⟩), .slice R1 l1.length d1, .string ⟨#[]⟩, .pointer none, .string ⟨#[]⟩, .pointer none, .string ⟨#[]⟩, .pointer none, .slice A1 n1 c1, .slice none 0 0] 96)
    simpa using this
  have lg := fun (w' : World) => legacy0_calls (.pointer (some ⟨p, 0, none⟩)) (.pointer (some ⟨q, 0, none⟩)) (.slice R0 l0.length d0) (.slice R1 l1.length d1) A0 A1 n0 n1 c0 c1 w'
  have ep := fun (w' : World) (d : Below w.heap.size w w') => epoch0_calls p q (.slice R0 l0.length d0) (.slice R1 l1.length d1) A0 A1 n0 n1 c0 c1 w' (hp.below d) (hq.below d)
  have rl := fun (w' : World) (d : Below w.heap.size w w') => release_calls (.pointer (some ⟨p, 0, none⟩)) (.pointer (some ⟨q, 0, none⟩)) R0 R1 A0 A1 d0 d1 n0 n1 c0 c1 l0 l1 w' (h0.below d) (h1.below d) hl0 hl1
  have B2 := Aside0.mk b2
  have K1 := Aside0.mk k1
  have M1 := Aside0.mk m1
  clear b2 k1 m1 hp hq h0 h1
  generalize padL cI 0 l0 l1 = V at *
  go_enter Tryd.func154, Tryd.ntmps154
  go_wp2_with (first | (go_at_call 173; refine (lg _).mono ?_; rintro e w1 ⟨rfl, d1⟩; have y0_ := (d1.block _ (blk_lt K1.out)).trans K1.out; have y1_ := (d1.block _ (blk_lt M1.out)).trans M1.out; have x0_ := blk_cell y0_ 0; have z0_ := blk_cell y1_ 0; have x1_ := blk_cell y0_ 1; have z1_ := blk_cell y1_ 1; have x2_ := blk_cell y0_ 2; have z2_ := blk_cell y1_ 2; have x3_ := blk_cell y0_ 3; have z3_ := blk_cell y1_ 3; have x4_ := blk_cell y0_ 4; have z4_ := blk_cell y1_ 4; have x5_ := blk_cell y0_ 5; have z5_ := blk_cell y1_ 5; have x6_ := blk_cell y0_ 6; have z6_ := blk_cell y1_ 6; have x7_ := blk_cell y0_ 7; have z7_ := blk_cell y1_ 7; have x8_ := blk_cell y0_ 8; have z8_ := blk_cell y1_ 8; have x9_ := blk_cell y0_ 9; have z9_ := blk_cell y1_ 9; have Y0 := Aside0.mk y0_; have Y1 := Aside0.mk y1_; have D1 := Aside0.mk (below_then B2.out B2.out.size d1); clear d1 y0_ y1_ lg) | (go_at_call 174; refine (ep _ D1.out).mono ?_; rintro e w2 ⟨rfl, d2⟩; have y0_ := (d2.block _ (blk_lt Y0.out)).trans Y0.out; have y1_ := (d2.block _ (blk_lt Y1.out)).trans Y1.out; have x0_ := blk_cell y0_ 0; have z0_ := blk_cell y1_ 0; have x1_ := blk_cell y0_ 1; have z1_ := blk_cell y1_ 1; have x2_ := blk_cell y0_ 2; have z2_ := blk_cell y1_ 2; have x3_ := blk_cell y0_ 3; have z3_ := blk_cell y1_ 3; have x4_ := blk_cell y0_ 4; have z4_ := blk_cell y1_ 4; have x5_ := blk_cell y0_ 5; have z5_ := blk_cell y1_ 5; have x6_ := blk_cell y0_ 6; have z6_ := blk_cell y1_ 6; have x7_ := blk_cell y0_ 7; have z7_ := blk_cell y1_ 7; have x8_ := blk_cell y0_ 8; have z8_ := blk_cell y1_ 8; have x9_ := blk_cell y0_ 9; have z9_ := blk_cell y1_ 9; have D2 := Aside0.mk (below_then D1.out D1.out.size d2); clear d2 y0_ y1_ ep) | (go_at_call 175; refine (rl _ D2.out).mono ?_; rintro e w3 ⟨rfl, d3⟩; have D3 := Aside0.mk (below_then D2.out D2.out.size d3); clear d3 rl))
  go_ret
  exact ⟨rfl, D3.out⟩
set_option maxRecDepth 100000 in
set_option maxHeartbeats 4000000 in
theorem compareR_calls (p q : Nat) (R0 R1 A0 A1 : Option Addr) (d0 d1 n0 n1 c0 c1 : Nat) (l0 l1 : List Int) (w : World) (hp : IsBig w p 0) (hq : IsBig w q 0) (h0 : BRow w R0 l0) (h1 : BRow w R1 l1) (hl0 : l0.length ≤ 1000000) (hl1 : l1.length ≤ 1000000) (hne : padL cI 0 l0 l1 ≠ 0) :
    Calls Tryd.prog 135 #[.agg (loR (.pointer (some ⟨p, 0, none⟩)) (.slice R0 l0.length d0) A0 n0 c0), .agg (loR (.pointer (some ⟨q, 0, none⟩)) (.slice R1 l1.length d1) A1 n1 c1)] w fun e w' => e = .returned (.int .i64 (padL cI 0 l0 l1)) ∧ Below w.heap.size w w' := by
  have b2 := Aside0.mk (below_alloc (below_alloc (Below.refl w.heap.size w) (Obj.cells #[.pointer (some ⟨p, 0, none⟩), .slice R0 l0.length d0, .string ⟨#[]⟩, .pointer none, .string ⟨#[]⟩, .pointer none, .string ⟨#[]⟩, .pointer none, .slice A0 n0 c0, .slice none 0 0] 96)) (Obj.cells #[.pointer (some ⟨q, 0, none⟩), .slice R1 l1.length d1, .string ⟨#[]⟩, .pointer none, .string ⟨#[]⟩, .pointer none, .string ⟨#[]⟩, .pointer none, .slice A1 n1 c1, .slice none 0 0] 96))
  have lc := fun (w' : World) (d : Below w.heap.size w w') => version_calls p q R0 R1 A0 A1 d0 d1 n0 n1 c0 c1 l0 l1 w' (hp.below d) (hq.below d) (h0.below d) (h1.below d) hl0 hl1 hne
  clear hp hq h0 h1
  go_enter Tryd.func135, Tryd.ntmps135
  go_wp2_with (first | (go_at_call 154; refine (lc _ b2.out).mono ?_; rintro e w1 ⟨rfl, d1⟩; have D1 := Aside0.mk (below_then b2.out b2.out.size d1); clear d1))
  go_ret
  exact ⟨rfl, D1.out⟩
set_option maxRecDepth 100000 in
set_option maxHeartbeats 4000000 in
theorem zzCompareR_calls (p q : Nat) (R0 R1 A0 A1 : Option Addr) (d0 d1 n0 n1 c0 c1 : Nat) (l0 l1 : List Int) (w : World) (hp : IsBig w p 0) (hq : IsBig w q 0) (h0 : BRow w R0 l0) (h1 : BRow w R1 l1) (hl0 : l0.length ≤ 1000000) (hl1 : l1.length ≤ 1000000) (hne : padL cI 0 l0 l1 ≠ 0) :
    Calls Tryd.prog 114 #[.agg (loR (.pointer (some ⟨p, 0, none⟩)) (.slice R0 l0.length d0) A0 n0 c0), .agg (loR (.pointer (some ⟨q, 0, none⟩)) (.slice R1 l1.length d1) A1 n1 c1)] w fun e w' => e = .returned (.int .i64 (padL cI 0 l0 l1)) ∧ Below w.heap.size w w' := by
  have b2 := Aside0.mk (below_alloc (below_alloc (Below.refl w.heap.size w) (Obj.cells #[.pointer (some ⟨p, 0, none⟩), .slice R0 l0.length d0, .string ⟨#[]⟩, .pointer none, .string ⟨#[]⟩, .pointer none, .string ⟨#[]⟩, .pointer none, .slice A0 n0 c0, .slice none 0 0] 96)) (Obj.cells #[.pointer (some ⟨q, 0, none⟩), .slice R1 l1.length d1, .string ⟨#[]⟩, .pointer none, .string ⟨#[]⟩, .pointer none, .string ⟨#[]⟩, .pointer none, .slice A1 n1 c1, .slice none 0 0] 96))
  have lc := fun (w' : World) (d : Below w.heap.size w w') => compareR_calls p q R0 R1 A0 A1 d0 d1 n0 n1 c0 c1 l0 l1 w' (hp.below d) (hq.below d) (h0.below d) (h1.below d) hl0 hl1 hne
  clear hp hq h0 h1
  go_enter Tryd.func114, Tryd.ntmps114
  go_wp2_with (first | (go_at_call 135; refine (lc _ b2.out).mono ?_; rintro e w1 ⟨rfl, d1⟩; have D1 := Aside0.mk (below_then b2.out b2.out.size d1); clear d1))
  go_ret
  exact ⟨rfl, D1.out⟩
end Go.Proofs.YtchbfjjeodnocaaDoor.Giv
