/- Contract by hand: plain numbers as pointers to numbers (zzBigs). -/
import Derived.Test.YtcaeghgbeldlaaaMGivKb
import Derived.Test.YtcaeghgbeldlaaaQAx1
namespace Go.Proofs.Ytcaeghgbeldlaaa.Giv
open Go.RowKit Go.Proofs.YtcaeghgbeldlaaaW.PrintWords Go.Proofs.YtcaeghgbeldlaaaW.PrintLast Go.Proofs.Ytcaeghgbeldlaaa.Pk Go.Proofs.Ytcaeghgbeldlaaa.Ord Go.Proofs.Ytcaeghgbeldlaaa.QA
set_option linter.unusedVariables false
set_option linter.unusedSimpArgs false

theorem ptrInfoZ : (Try.prog.info? 41).map (fun i => (i.zero, i.size, i.bytes)) = some (some (.pointer none), 1, 8) := by kernel_rfl
/-- What plain numbers tell. -/
def zsOf (l : List S40) : List Int := l.map fun x => zOf x.f0 x.f1
theorem zsOf_len (l : List S40) : (zsOf l).length = l.length := by simp [zsOf]
set_option maxHeartbeats 4000000 in
set_option maxRecDepth 100000 in
theorem zzBigs_calls (A : Option Addr) (c : Nat) (l : List S40) (w : World) (hr : Kd.C k40 w A l.length l) (hl : l.length ≤ 100000) (hs : ∀ x ∈ l, x.f1.size ≤ 100000) :
    Calls Try.prog 16 #[.slice A l.length c] w fun e w' => ∃ v, e = .returned v ∧ BOwn w' w.heap.size v (zsOf l) ∧ Below w.heap.size w w' := by
  have HR := Aside0.mk hr
  clear hr
  go_enter Try.func16, Try.ntmps16
  go_wp2_with fail
  go_loopw [3, 8] (fun v3 v8 wr => ∃ (k : Nat), v8 = .int .i64 k ∧ k ≤ l.length ∧ Aside0 (BOwn wr w.heap.size v3 (zsOf (l.take k))) ∧ Aside0 (Below w.heap.size w wr)) (fun v3 v8 wr => l.length - (match v8 with | .int _ n => n.toNat | _ => 0))
  case atStart => exact ⟨0, rfl, Nat.zero_le _, Aside0.mk (BOwn.nil w w.heap.size), Aside0.mk (Below.refl _ _)⟩
  case round =>
    obtain ⟨k, rfl, hk, HB, BL⟩ := hrel
    by_cases hlt : k < l.length
    · obtain ⟨ad, rfl, c0, c1⟩ := at_T40 HR.out (k : Int) (by omega) (by omega)
      replace c0 := (BL.out.cell (World.block_lt_of_cell? w _ c0)).trans c0
      replace c1 := (BL.out.cell (World.block_lt_of_cell? w _ c1)).trans c1
      have er : rd_T40 l (k : Int) = l[k]'hlt := by
        unfold rd_T40
        rw [Int.toNat_natCast, List.getD_eq_getElem?_getD, List.getElem?_eq_getElem hlt]
        rfl
      rw [er, Int.toNat_natCast] at c0 c1
      have hsx := hs _ (List.getElem_mem hlt)
      have nx : zsOf (l.take k) ++ [zOf (l[k]'hlt).f0 (l[k]'hlt).f1] = zsOf (l.take (k + 1)) := by
        unfold zsOf
        rw [List.take_succ_eq_append_getElem hlt, List.map_append]
        rfl
      have NX := Aside0.mk nx
      have LEN := Aside0.mk (show (zsOf (l.take k)).length = k by rw [zsOf_len, List.length_take]; omega)
      clear nx er
      generalize l[k]'hlt = x at *
      obtain ⟨ng, mg⟩ := x
      have k4 := blk_new wr (Obj.cells #[Value.bool false, .string ⟨#[]⟩] 40)
      have p0 := blk_cell k4 0
      have p1 := blk_cell k4 1
      have f0 := Lib.frozen_of_heap k4 0
      have f1 := Lib.frozen_of_heap k4 1
      have lt4 := blk_lt k4
      have k5 := blk_new wr (Obj.cells #[Value.bool ng, .string mg] 40)
      have q0 := blk_cell k5 0
      have q1 := blk_cell k5 1
      have A5 := Aside0.mk (below_alloc (Below.refl wr.heap.size wr) (Obj.cells #[Value.bool ng, .string mg] 40))
      have zb := fun (w' : World) => zzBig_calls ng mg w' hsx
      have f4 : (k : Int) < (l.length : Int) := Int.ofNat_lt.2 hlt
      have WK := Aside0.mk (Pk.wr k (by omega))
      have KL := Aside0.mk hlt
      have HL := Aside0.mk hl
      clear k4 k5 hs hlt hl hk
      go_wp2_with (first | (go_at_call 18; (with_reducible refine (zb _).mono ?_); rintro e w3 ⟨p, rfl, hp, d3⟩; have B3 := below_then A5.out A5.out.size d3; have BL3 := Aside0.mk (below_then BL.out BL.out.size B3); have BS3 := Aside0.mk (Nat.le_trans BL.out.size B3.size); obtain ⟨qs, hq1, hq2⟩ := HB.out.below B3; have HQ1 := Aside0.mk hq1; have HQ2 := Aside0.mk hq2; have Q2 := Aside0.mk hp; have QL := Aside0.mk (show (qs.length + 1) * 8 ≤ 140737488355328 by rw [hq2.1, LEN.out]; have := KL.out; have := HL.out; omega); clear B3 hq1 hq2 hp d3) | ((with_reducible refine gate_builtin (b := .append) (xs := #[.tmp 12, .tmp 15]) rfl ?_); at_builtin; refine Kd.R_append ptrK (w0 := w) w.heap.size rfl (.tmp 12) (.tmp 15) 36 41 (.pointer none) 8 rfl Try.underlying36 ptrInfoZ rfl (by decide) (by omega) u3 qs p [.pointer (some ⟨p, 0, none⟩)] (fun _ => True) (fun _ => False) rfl rfl ?aP (fun _ hk => hk.elim) ?aF ?aO ?aB ?aS ?aL ?_; (case aP => exact rfl); (case aF => exact (fun _ _ => trivial)); (case aO => exact HQ1.out); (case aB => exact BL3.out); (case aS => exact BS3.out); (case aL => exact QL.out); intro v5 w5 ho hb hg hat; have HO := Aside0.mk (BOwn.more HQ1.out HQ2.out Q2.out ho hg); have BL5 := Aside0.mk hb; clear ho hb hg hat))
      refine ⟨⟨k + 1, ?_, KL.out, Aside0.mk (NX.out ▸ HO.out), BL5⟩, ?_⟩
      · rw [WK.out]
      · have := KL.out
        simp only [WK.out, Int.toNat_natCast]
        omega
    · obtain rfl : k = l.length := by omega
      have f4 : ¬ (l.length : Int) < (l.length : Int) := by omega
      have e := HB.out
      rw [List.take_of_length_le (Nat.le_refl _)] at e
      have HE := Aside0.mk e
      clear e
      go_wp2_with fail
      go_ret
      exact ⟨_, rfl, HE.out, BL.out⟩
end Go.Proofs.Ytcaeghgbeldlaaa.Giv
