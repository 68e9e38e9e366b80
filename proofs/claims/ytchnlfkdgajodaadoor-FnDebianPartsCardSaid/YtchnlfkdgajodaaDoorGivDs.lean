/- Contract by hand: a text of bytes below 128 split at the empty text: its bytes one by one. -/
import Derived.Test.YtchnlfkdgajodaaDoorGivI
import Derived.Test.YtchnlfkdgajodaaDoorZD
import Derived.Test.YtchnlfkdgajodaaDoorWMore
namespace Go.Proofs.YtchnlfkdgajodaaDoor.Giv
open Go.RowKit Go.Proofs.YtchnlfkdgajodaaDoorW.PrintWords Go.Proofs.YtchnlfkdgajodaaDoorW.PrintLast Go.Proofs.YtchnlfkdgajodaaDoor.Pk Go.Proofs.YtchnlfkdgajodaaDoor.Ord
set_option linter.unusedVariables false
set_option linter.unusedSimpArgs false

theorem deb_infoStr : (Tryd.prog.info? 9).map (fun i => (i.zero, i.size, i.bytes)) = some (some (.string ⟨#[]⟩), 1, 16) := by kernel_rfl
/-- A text's bytes one by one. -/
def ones (l : List UInt8) : List ByteArray := l.map fun c => bs [c]
theorem ones_len (l : List UInt8) : (ones l).length = l.length := by simp [ones]
theorem ones_next (s : ByteArray) (k : Nat) (h : k < s.size) : ones (s.toList.take (k + 1)) = ones (s.toList.take k) ++ [s.extract k (k + 1)] := by
  have e : s.extract k (k + 1) = bs [s[k]'h] := bs_eq (by
    rw [ext_toList, drop_at s k h, show k + 1 - k = 1 by omega, List.take_succ_cons, List.take_zero])
  rw [e, take_next' s k h]
  unfold ones
  rw [List.map_append]
  rfl
set_option maxRecDepth 100000 in
set_option maxHeartbeats 4000000 in
theorem splitE_calls (s : ByteArray) (hs : asc s) (hz : s.size ≤ 1000000) (w : World) :
    Calls Tryd.prog 24 #[.string s, .string ⟨#[]⟩] w fun e w' => ∃ v0_ : Value, e = .returned v0_ ∧ Kd.R Kd.string 9 w' w.heap.size (fun _ => True) v0_ (ones s.toList) ∧ Below w.heap.size w w' := by
  go_enter Tryd.func24, Tryd.ntmps24
  go_wp2_with fail
  go_loopw [5, 6] (fun v5 v6 wr => ∃ (pos : Nat), v6 = .int .i64 ((pos - 1 : Nat) : Int) ∧ wr.heap[w.heap.size]? = some (.stringIter s pos) ∧ Below w.heap.size w wr ∧ pos ≤ s.size ∧ Kd.R Kd.string 9 wr w.heap.size (fun k => k ≠ w.heap.size) v5 (ones (s.toList.take (pos - 1)))) (fun v5 v6 wr => s.size - wr.iterPos w.heap.size)
  case atStart => exact ⟨0, rfl, World.iter_heap w s 0, (Below.refl _ w).alloc (Nat.le_refl _) _, Nat.zero_le _, Kd.R_nil _ _ _ _ _⟩
  case round =>
    obtain ⟨pos, rfl, hit, hbw, hp, ho⟩ := hrel
    have hsz : w.heap.size < wr.heap.size := (Array.getElem?_eq_some_iff.1 hit).1
    have lo : (ones (s.toList.take (pos - 1))).length ≤ 1000000 := by rw [ones_len, List.length_take, len_toList]; omega
    by_cases hlt : pos < s.size
    · have hnx : ∀ ty, (Instr.next (.pointer (some ⟨w.heap.size, 0, none⟩)) true ty).run Tryd.prog wr = .ok (.tuple #[.bool true, .int .i64 pos, .int .i32 ((s[pos]'hlt).toNat : Int)]) (wr.iterAt w.heap.size s (pos + 1)) := fun ty => by
        have h0 := Lib.run_next_any_at (P := Tryd.prog) wr w.heap.size s pos ty hit hlt
        rw [decode_ascii s pos hlt (hs pos hlt)] at h0
        exact h0
      have HI := Aside0.mk hit
      have hit2 := Aside0.mk (Lib.iterAt_heap wr w.heap.size s pos (pos + 1) hit)
      have hbw2 := Aside0.mk (Lib.below_iterAt hbw (k := w.heap.size) (Nat.le_refl _) s (pos + 1))
      have HO := Aside0.mk (show Kd.R Kd.string 9 (wr.iterAt w.heap.size s (pos + 1)) w.heap.size (fun k => k ≠ w.heap.size) u5 (ones (s.toList.take (pos - 1))) from Kd.R_step ho (fun k hk _ => Lib.iterAt_other wr w.heap.size k s (pos + 1) hk))
      have hsz2 := Aside0.mk (show w.heap.size < (wr.iterAt w.heap.size s (pos + 1)).heap.size by rw [Lib.iterAt_size]; exact hsz)
      have lim := Aside0.mk (show ((ones (s.toList.take (pos - 1))).length + 1) * 16 ≤ 140737488355328 by omega)
      by_cases h0 : pos = 0
      · subst h0
        clear hit hbw hp ho hsz lo
        go_wp2_with fail
        go_roundw
        case rel => exact ⟨1, rfl, hit2.out, hbw2.out, hlt, HO.out⟩
        case measure =>
          simp only [World.iterPos, hit2.out, HI.out]
          omega
      · have f1 : (0 : Int) < (pos : Int) := by omega
        have f2 : ((pos - 1 : Nat) : Int) ≤ (pos : Int) := by omega
        have f3 : (pos : Int) ≤ (s.size : Int) := by omega
        have f6 : pos - 1 ≤ pos := by omega
        have f7 : pos ≤ s.size := hp
        have Q := Aside0.mk (show ones (s.toList.take (pos - 1)) ++ [s.extract (pos - 1) pos] = ones (s.toList.take (pos + 1 - 1)) by
          have := ones_next s (pos - 1) (by omega)
          rw [show pos - 1 + 1 = pos by omega] at this
          rw [← this, show pos + 1 - 1 = pos by omega])
        obtain ⟨W, eW⟩ : ∃ W, W = wr.iterAt w.heap.size s (pos + 1) := ⟨_, rfl⟩
        rw [← eW] at hit2 hbw2 HO hsz2 hnx
        clear hit hbw hp ho hsz lo h0 eW
        go_wp2_with (first | ((with_reducible refine gate_builtin (b := .append) (xs := #[.tmp 19, .tmp 24]) rfl ?_); at_builtin; refine Kd.R_append Kd.string (w0 := w) w.heap.size rfl (.tmp 19) (.tmp 24) 28 9 (.string ⟨#[]⟩) 16 rfl Tryd.underlying28 deb_infoStr rfl (by decide) (by omega) u5 (ones (s.toList.take (pos - 1))) (s.extract (pos - 1) pos) [.string (s.extract (pos - 1) pos)] (fun k => k ≠ w.heap.size) (fun _ => False) rfl rfl ?aP (fun _ hk => hk.elim) ?aF ?aO ?aB ?aS ?aL ?_; (case aP => exact rfl); (case aF => exact (fun k hk => Nat.ne_of_gt (Nat.lt_of_lt_of_le hsz2.out hk))); (case aO => exact HO.out); (case aB => exact hbw2.out); (case aS => exact Nat.le_of_lt hsz2.out); (case aL => exact lim.out); intro v5 w5 ho hb hg hat; have HO2 := Aside0.mk ho; have BL2 := Aside0.mk hb; have IT := Aside0.mk ((hg.block w.heap.size hsz2.out (fun e => HO.out.1 w.heap.size e.symm rfl)).trans hit2.out); clear ho hb hg hat))
        go_roundw
        case rel => exact ⟨pos + 1, rfl, IT.out, BL2.out, hlt, by rw [← Q.out]; exact HO2.out⟩
        case measure =>
          simp only [World.iterPos, IT.out, HI.out]
          omega
    · have hnx : ∀ ty, (Instr.next (.pointer (some ⟨w.heap.size, 0, none⟩)) true ty).run Tryd.prog wr = _ := fun ty => Lib.run_next_end_at wr w.heap.size s pos ty hit hlt
      have hpe : pos = s.size := by omega
      have HO := Aside0.mk ho
      have BL := Aside0.mk hbw
      have BS := Aside0.mk hbw.size
      have SZ := Aside0.mk hsz
      have lim := Aside0.mk (show ((ones (s.toList.take (pos - 1))).length + 1) * 16 ≤ 140737488355328 by omega)
      by_cases h0 : s.size = 0
      · have f1 : ¬ (0 : Int) < (s.size : Int) := by omega
        have Q := Aside0.mk (show ones (s.toList.take (pos - 1)) = ones s.toList by
          rw [List.take_of_length_le (by rw [len_toList]; omega)])
        clear hit hbw hp ho hsz lo h0 hpe
        go_wp2_with fail
        go_ret
        exact ⟨_, rfl, by rw [← Q.out]; exact Kd.R_mono HO.out (fun _ _ => trivial), BL.out⟩
      · have f1 : (0 : Int) < (s.size : Int) := by omega
        have f2 : ((pos - 1 : Nat) : Int) ≤ (s.size : Int) := by omega
        have f6 : pos - 1 ≤ s.size := by omega
        have Q := Aside0.mk (show ones (s.toList.take (pos - 1)) ++ [s.extract (pos - 1) s.size] = ones s.toList by
          have := ones_next s (pos - 1) (by omega)
          rw [show pos - 1 + 1 = s.size by omega] at this
          rw [← this, List.take_of_length_le (by rw [len_toList]; omega)])
        clear hit hbw hp ho hsz lo h0 hpe
        go_wp2_with (first | ((with_reducible refine gate_builtin (b := .append) (xs := #[.tmp 30, .tmp 34]) rfl ?_); at_builtin; refine Kd.R_append Kd.string (w0 := w) w.heap.size rfl (.tmp 30) (.tmp 34) 28 9 (.string ⟨#[]⟩) 16 rfl Tryd.underlying28 deb_infoStr rfl (by decide) (by omega) u5 (ones (s.toList.take (pos - 1))) (s.extract (pos - 1) s.size) [.string (s.extract (pos - 1) s.size)] (fun k => k ≠ w.heap.size) (fun _ => False) rfl rfl ?aP (fun _ hk => hk.elim) ?aF ?aO ?aB ?aS ?aL ?_; (case aP => exact rfl); (case aF => exact (fun k hk => Nat.ne_of_gt (Nat.lt_of_lt_of_le SZ.out hk))); (case aO => exact HO.out); (case aB => exact BL.out); (case aS => exact BS.out); (case aL => exact lim.out); intro v5 w5 ho hb hg hat; have HO2 := Aside0.mk ho; have BL2 := Aside0.mk hb; clear ho hb hg hat))
        go_ret
        exact ⟨_, rfl, by rw [← Q.out]; exact Kd.R_mono HO2.out (fun _ _ => trivial), BL2.out⟩
end Go.Proofs.YtchnlfkdgajodaaDoor.Giv
