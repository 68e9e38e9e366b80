/- Contracts by hand: whole numbers out of bytes: SetBytes, Neg, zzBig. -/
import Derived.Test.YtcaeghgbeldlaaaMGivK
import Derived.Test.YtcaeghgbeldlaaaMGivBg
import Derived.Test.YtcaeghgbeldlaaaWMore
import Derived.Lib.ConvBytes
import Derived.LaidEqlPtr
namespace Go.Proofs.Ytcaeghgbeldlaaa.Giv
open Go.RowKit Go.Proofs.YtcaeghgbeldlaaaW.PrintWords Go.Proofs.YtcaeghgbeldlaaaW.PrintLast Go.Proofs.Ytcaeghgbeldlaaa.Pk Go.Proofs.Ytcaeghgbeldlaaa.Ord Go.Proofs.Ytcaeghgbeldlaaa.QM
set_option linter.unusedVariables false
set_option linter.unusedSimpArgs false

set_option maxHeartbeats 2000000 in
set_option maxRecDepth 100000 in
theorem setBytesI_calls (b : Nat) (buf : List UInt8) (A : Option Addr) (c : Nat) (w : World) (hm : buf.length ≤ 100000) (hC : (Kd.int .u8).C w A buf.length (bi buf)) (hc : buf.length ≤ c) (hg : w.heap[b]? = some (.cells #[.bool false, .slice none 0 0] 49 (0, 0))) :
    Calls Try.prog 21 #[.pointer (some ⟨b, 0, none⟩), .slice A buf.length c] w fun e w' => e = .returned (.pointer (some ⟨b, 0, none⟩)) ∧ Below b w w' ∧ IsBig w' b (Dg.be buf : Int) := by
  have sb := fun (w' : World) (d : Below w.heap.size w w') => setBytes_calls buf A c w' hm (Kd.C_below hC d) hc
  have lt := blk_lt hg
  have p1 := blk_cell hg 1
  have HG := Aside0.mk hg
  clear hg hC
  go_enter Try.func21, Try.ntmps21
  go_wp2_with (first | (go_at_call 25; (with_reducible refine (sb _ ?hd).mono ?_); (case hd => repeat (first | with_reducible exact Below.refl _ _ | with_reducible apply Below.drew | apply pw_below_drewN)); rintro e w1 ⟨d1, A', c', rfl, hl', hC', hW', wl⟩; have k1 := (d1.block _ lt).trans HG.out; have q0 := blk_cell k1 0; have q1 := blk_cell k1 1; have f0 := Lib.frozen_of_heap k1 0; have f1 := Lib.frozen_of_heap k1 1; have D1 := Aside0.mk (d1.mono (Nat.le_of_lt lt)); have K1 := Aside0.mk k1; have HC := Aside0.mk hC'; have HW := Aside0.mk hW'; clear d1 k1 hC' hW' sb))
  go_ret
  have e0 : wd (Dg.be buf : Int) = Dg.dg (Dg.be buf) := by unfold wd; rw [Int.natAbs_natCast]
  refine ⟨rfl, (D1.out.setCell (p := ⟨b, 1, none⟩) (Nat.le_refl _) _).setCell (p := ⟨b, 0, none⟩) (Nat.le_refl _) _, A', c', ?_, by rw [e0]; exact hl', by rw [e0]; exact wl, ?_, ?_⟩
  · have k2 := blk_put (cs := #[Value.bool false, .slice none 0 0]) K1.out 1 (.slice A' (ws (Dg.dg (Dg.be buf))).length c') rfl
    have k3 := blk_put (cs := #[Value.bool false, .slice A' (ws (Dg.dg (Dg.be buf))).length c']) k2 0 (.bool false) rfl
    rw [e0, show decide (((Dg.be buf : Nat) : Int) < 0) = false from decide_eq_false (by omega)]
    exact k3
  · rw [e0]
    refine C_moved HC.out (fun a ea => ?_)
    obtain ⟨arr, ha⟩ := HW.out a ea
    have ne : a.block ≠ b := fun e => by
      rw [e, K1.out] at ha
      injection ha with ha
      injection ha with _ ha
      exact absurd ha (by decide)
    rw [Below.heap_setCell _ _ _ _ (fun e => ne e), Below.heap_setCell _ _ _ _ (fun e => ne e)]
  · intro a ea
    obtain ⟨arr, ha⟩ := HW.out a ea
    have ne : a.block ≠ b := fun e => by
      rw [e, K1.out] at ha
      injection ha with ha
      injection ha with _ ha
      exact absurd ha (by decide)
    exact ⟨arr, by rw [Below.heap_setCell _ _ _ _ (fun e => ne e), Below.heap_setCell _ _ _ _ (fun e => ne e)]; exact ha⟩
set_option maxHeartbeats 2000000 in
set_option maxRecDepth 100000 in
theorem set_same (b : Nat) (w : World) :
    Calls Try.prog 26 #[.pointer (some ⟨b, 0, none⟩), .pointer (some ⟨b, 0, none⟩)] w fun e w' => e = .returned (.pointer (some ⟨b, 0, none⟩)) ∧ w' = w := by
  obtain ⟨j, hj, hs⟩ := Option.map_eq_some_iff.1 (show (Try.prog.info? 49).map (fun i => decide (i.size = 2)) = some true by kernel_rfl)
  have he := Lib.run_neq_ptr_same (P := Try.prog) w ⟨b, 0, none⟩ Try.underlying41 hj
  go_enter Try.func26, Try.ntmps26
  go_wp2_with fail
  go_ret
  exact ⟨rfl, rfl⟩
theorem neg_put {w : World} {b c : Nat} {z : Int} {A : Option Addr} (h1 : w.heap[b]? = some (.cells #[.bool false, .slice A (ws (wd z)).length c] 49 (0, 0))) (h3 : (ws (wd z)).length ≤ c) (h4 : (ws (wd z)).length ≤ 1000000) (h5 : (Kd.int .u64).C w A (ws (wd z)).length (ws (wd z))) (h6 : WordsAt w A) (v : Bool) (hv : decide (-z < 0) = v) : IsBig (w.setCell ⟨b, 0, none⟩ (.bool v)) b (-z) := by
  have e0 : wd (-z) = wd z := by unfold wd; rw [Int.natAbs_neg]
  have k := blk_put (cs := #[Value.bool false, .slice A (ws (wd z)).length c]) h1 0 (.bool v) rfl
  have ne : ∀ a, A = some a → ¬ a.block = b := fun a ea e => by
    obtain ⟨arr, ha⟩ := h6 a ea
    rw [e, h1] at ha
    injection ha with ha
    injection ha with _ ha
    exact absurd ha (by decide)
  refine ⟨A, c, by rw [e0, hv]; exact k, by rw [e0]; exact h3, by rw [e0]; exact h4, ?_, ?_⟩
  · rw [e0]
    exact C_moved h5 (fun a ea => Below.heap_setCell _ _ _ _ (fun e => ne a ea e))
  · intro a ea
    obtain ⟨arr, ha⟩ := h6 a ea
    exact ⟨arr, (Below.heap_setCell _ _ _ _ (fun e => ne a ea e)).trans ha⟩
set_option maxHeartbeats 2000000 in
set_option maxRecDepth 100000 in
theorem neg_same (b : Nat) (z : Int) (hz : 0 ≤ z) (w : World) (hb : IsBig w b z) :
    Calls Try.prog 22 #[.pointer (some ⟨b, 0, none⟩), .pointer (some ⟨b, 0, none⟩)] w fun e w' => e = .returned (.pointer (some ⟨b, 0, none⟩)) ∧ Below b w w' ∧ IsBig w' b (-z) := by
  have ss := fun (w' : World) => set_same b w'
  obtain ⟨A, c, h1, h3, h4, h5, h6⟩ := hb
  have ng : decide (z < 0) = false := decide_eq_false (by omega)
  rw [ng] at h1
  have p0 := blk_cell h1 0
  have p1 := blk_cell h1 1
  have f0 := Lib.frozen_of_heap h1 0
  have H1 := Aside0.mk h1
  have WL := ws_len (wd z)
  have key : decide (-z < 0) = (decide (0 < ((ws (wd z)).length : Int))) := by
    have l : (wd z).length = 0 ↔ z = 0 := by
      constructor
      · intro h
        have h0 : wd z = [] := List.length_eq_zero_iff.1 h
        have v := Dg.val_dg z.natAbs
        unfold wd at h0
        rw [h0] at v
        have : z.natAbs = 0 := by simpa [Dg.val] using v.symm
        omega
      · rintro rfl
        have := wd_zero
        have e := congrArg List.length this
        rw [ws_len] at e
        exact e
    rw [WL]
    by_cases h : z = 0
    · rw [decide_eq_false (by omega), decide_eq_false (by have := l.2 h; omega)]
    · have h7 : (wd z).length ≠ 0 := fun e => h (l.1 e)
      rw [decide_eq_true (by omega), decide_eq_true (by omega)]
  have KEY := Aside0.mk key
  clear key h1
  go_enter Try.func22, Try.ntmps22
  go_wp2_with (first | (go_at_call 26; (with_reducible refine (ss _).mono ?_); rintro e w1 ⟨rfl, rfl⟩))
  all_goals
    go_ret
    refine ⟨rfl, (Below.refl b w1).setCell (p := ⟨b, 0, none⟩) (Nat.le_refl _) _, neg_put H1.out h3 h4 h5 h6 _ ?_⟩
    rw [KEY.out, WL]
    first
      | exact decide_eq_true (by omega)
      | exact decide_eq_false (by omega)
/-- The number that a sign and bytes tell. -/
def zOf (ng : Bool) (mg : ByteArray) : Int := if ng then -(Dg.be mg.toList : Int) else (Dg.be mg.toList : Int)
theorem bytes_row (w : World) (s : ByteArray) (hs : s.size ≤ 100000) : (Kd.int .u8).C (Lib.bytesWorld w 5 s) (some ⟨w.heap.size, 0, none⟩) s.toList.length (bi s.toList) := by
  have hl : s.toList.length = s.size := len_toList s
  have ed : s.toList = s.data.toList := Lib.toList_data s
  refine ⟨by rw [bi_len], by omega, fun _ => ⟨_, rfl, ?_⟩⟩
  intro j p hj
  have hlt : j < s.toList.length := by
    have := (List.getElem?_eq_some_iff.1 hj).1
    rwa [bi_len] at this
  have hp : p = ((s.toList[j]'hlt).toNat : Int) := by
    unfold bi at hj
    rw [List.getElem?_map, List.getElem?_eq_getElem hlt] at hj
    simpa using hj.symm
  refine ⟨[.int .u8 p], rfl, rfl, ?_⟩
  intro i u hu
  have hi : i = 0 := by
    have := (List.getElem?_eq_some_iff.1 hu).1
    simp at this
    exact this
  subst hi
  have hu' : u = .int .u8 p := by simpa using hu.symm
  rw [hu', hp]
  have c := Lib.bytesWorld_cell w 5 s j (by omega)
  have g : s.data.toList.getD j 0 = s.toList[j]'hlt := by
    rw [← ed, List.getD_eq_getElem?_getD, List.getElem?_eq_getElem hlt]
    rfl
  rw [g] at c
  show (Lib.bytesWorld w 5 s).cell? (Go.Addr.add _ (j * 1 + 0)) = _
  rw [Nat.mul_one, Nat.add_zero]
  unfold Go.Addr.add
  by_cases hz : j = 0
  · subst hz
    simpa using c
  · simpa [hz] using c
set_option maxRecDepth 100000 in
set_option maxHeartbeats 4000000 in
theorem zzBig_calls (ng : Bool) (mg : ByteArray) (w : World) (hs : mg.size ≤ 100000) :
    Calls Try.prog 18 #[.agg #[.bool ng, .string mg]] w fun e w' => ∃ p, e = .returned (.pointer (some ⟨p, 0, none⟩)) ∧ IsBig w' p (zOf ng mg) ∧ Below w.heap.size w w' := by
  have b2 := below_alloc (below_alloc (Below.refl w.heap.size w) (Obj.cells #[.bool ng, .string mg] 40)) (Obj.cells #[.bool false, .slice none 0 0] 49)
  have k1 : ((w.alloc (Obj.cells #[.bool ng, .string mg] 40)).alloc (Obj.cells #[.bool false, .slice none 0 0] 49)).heap[w.heap.size]? = some (Obj.cells #[.bool ng, .string mg] 40) := blk_alloc (blk_new w _) _
  have m1 : ((w.alloc (Obj.cells #[.bool ng, .string mg] 40)).alloc (Obj.cells #[.bool false, .slice none 0 0] 49)).heap[w.heap.size + 1]? = some (Obj.cells #[.bool false, .slice none 0 0] 49) := by
    have := blk_new (w.alloc (Obj.cells #[.bool ng, .string mg] 40)) (Obj.cells #[.bool false, .slice none 0 0] 49)
    simpa using this
  have hl : mg.toList.length = mg.size := len_toList mg
  obtain ⟨A, cp, W3, hcv, hb3, hr3, hc3⟩ : ∃ (A : Option Addr) (cp : Nat) (W3 : World), (convert 9 51 (.string mg)).run Try.prog ((w.alloc (Obj.cells #[.bool ng, .string mg] 40)).alloc (Obj.cells #[.bool false, .slice none 0 0] 49)) = .ok (.slice A mg.toList.length cp) W3 ∧ Below ((w.alloc (Obj.cells #[.bool ng, .string mg] 40)).alloc (Obj.cells #[.bool false, .slice none 0 0] 49)).heap.size ((w.alloc (Obj.cells #[.bool ng, .string mg] 40)).alloc (Obj.cells #[.bool false, .slice none 0 0] 49)) W3 ∧ (Kd.int .u8).C W3 A mg.toList.length (bi mg.toList) ∧ mg.toList.length ≤ cp := by
    have cv := Lib.run_convert_string_bytes ((w.alloc (Obj.cells #[.bool ng, .string mg] 40)).alloc (Obj.cells #[.bool false, .slice none 0 0] 49)) 9 51 5 mg Try.underlying9 Try.underlying51 Try.underlying5
    rw [← hl] at cv
    exact ⟨_, _, _, cv, bytes_below (Below.refl _ _) (Nat.le_refl _) _ _, bytes_row _ mg hs, by rw [hl]; exact grownCap_ge _ _ _ _⟩
  have k3 := (hb3.block _ (blk_lt k1)).trans k1
  have m3 := (hb3.block _ (blk_lt m1)).trans m1
  have sb := setBytesI_calls (w.heap.size + 1) mg.toList A cp W3 (by omega) hr3 hc3 m3
  clear hr3
  obtain ⟨n, en⟩ : ∃ n, n = mg.toList.length := ⟨_, rfl⟩
  rw [← en] at sb hcv
  have EN := Aside0.mk en
  clear en hl hc3
  have K3 := Aside0.mk k3
  have B3 := Aside0.mk (b2.trans (hb3.mono (by have := b2.size; omega)))
  have nz := fun (w' : World) (h : IsBig w' (w.heap.size + 1) (Dg.be mg.toList : Int)) => neg_same (w.heap.size + 1) (Dg.be mg.toList : Int) (by omega) w' h
  clear b2 k1 m1 hb3 k3 m3
  go_enter Try.func18, Try.ntmps18
  cases ng with
  | false =>
    go_wp2_with (first | (go_at_call 21; (with_reducible refine sb.mono ?_); rintro e w4 ⟨rfl, d4, hb4⟩; have q0 := blk_cell ((d4.block _ (Nat.lt_succ_self _)).trans K3.out) 0; have D4 := Aside0.mk (B3.out.trans (d4.mono (Nat.le_succ _))); have HB := Aside0.mk hb4; clear d4 hb4))
    go_ret
    exact ⟨_, rfl, HB.out, D4.out⟩
  | true =>
    go_wp2_with (first | (go_at_call 21; (with_reducible refine sb.mono ?_); rintro e w4 ⟨rfl, d4, hb4⟩; have q0 := blk_cell ((d4.block _ (Nat.lt_succ_self _)).trans K3.out) 0; have D4 := Aside0.mk (B3.out.trans (d4.mono (Nat.le_succ _))); have HB := Aside0.mk hb4; clear d4 hb4) | (go_at_call 22; (with_reducible refine (nz _ HB.out).mono ?_); rintro e w5 ⟨rfl, d5, hb5⟩; have D5 := Aside0.mk (D4.out.trans (d5.mono (Nat.le_succ _))); have HB5 := Aside0.mk hb5; clear d5 hb5))
    go_ret
    exact ⟨_, rfl, HB5.out, D5.out⟩
end Go.Proofs.Ytcaeghgbeldlaaa.Giv
