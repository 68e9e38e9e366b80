/- Contract by hand: zzIndexAny, where both texts are ASCII. -/
import Derived.Test.YtchnlfkdgajodaaDoorZD
namespace Go.Proofs.YtchnlfkdgajodaaDoor.Giv
open Go.RowKit
set_option linter.unusedSimpArgs false
set_option linter.unusedVariables false

theorem placeOf_at (s : ByteArray) (f : UInt8 → Bool) (p : Nat) (h : p < s.size) (hno : (s.toList.take p).any f = false) (hy : f (s[p]'h) = true) : placeOf f s.toList = p := by
  have e : s.toList = s.toList.take p ++ (s[p]'h :: s.toList.drop (p + 1)) := by rw [← drop_at s p h, List.take_append_drop]
  unfold placeOf
  have ha : s.toList.any f = true := by
    rw [e, List.any_append]
    simp [hy]
  rw [if_pos ha, e, List.findIdx_append]
  have hl : (s.toList.take p).findIdx f = (s.toList.take p).length := List.findIdx_eq_length.2 (by simpa using hno)
  rw [hl, if_neg (by omega), List.findIdx_cons, hy, List.length_take, len_toList]
  simp
  omega
theorem placeOf_no (s : ByteArray) (f : UInt8 → Bool) (hno : s.toList.any f = false) : placeOf f s.toList = -1 := by
  unfold placeOf
  rw [if_neg (by simp [hno])]

set_option maxHeartbeats 1000000 in
set_option maxRecDepth 100000 in
theorem indexAny_calls (s set : ByteArray) (w : World) (hs : asc s) (ha : asc set) (hz : s.size ≤ 140737488351232) (hz' : set.size ≤ 140737488351232) :
    Calls Tryd.prog 29 #[.string s, .string set] w fun e w' => e = .returned (.int .i64 (placeOf (inB set) s.toList)) ∧ Below w.heap.size w w' := by
  go_enter Tryd.func29, Tryd.ntmps29
  go_wp2
  go_loopw [] (fun wr => ∃ (pos : Nat), wr.heap[w.heap.size]? = some (.stringIter s pos) ∧ Below w.heap.size w wr ∧ pos ≤ s.size ∧ (s.toList.take pos).any (inB set) = false) (fun wr => s.size - wr.iterPos w.heap.size)
  case atStart =>
    exact ⟨0, World.iter_heap w s 0, (Below.refl _ w).alloc (Nat.le_refl _) _, Nat.zero_le _, rfl⟩
  case round =>
    obtain ⟨pos, hit, hbw, hp, hno⟩ := hrel
    have hsz : w.heap.size < wr.heap.size := (Array.getElem?_eq_some_iff.1 hit).1
    by_cases hlt : pos < s.size
    · have hnx : ∀ ty, (Instr.next (.pointer (some ⟨w.heap.size, 0, none⟩)) true ty).run Tryd.prog wr = .ok (.tuple #[.bool true, .int .i64 pos, .int .i32 ((s[pos]'hlt).toNat : Int)]) (wr.iterAt w.heap.size s (pos + 1)) := fun ty => by
        have h0 := Lib.run_next_any_at (P := Tryd.prog) wr w.heap.size s pos ty hit hlt
        rw [decode_ascii s pos hlt (hs pos hlt)] at h0
        exact h0
      have hit2 := Lib.iterAt_heap wr w.heap.size s pos (pos + 1) hit
      have hbw2 := Lib.below_iterAt hbw (k := w.heap.size) (Nat.le_refl _) s (pos + 1)
      have hsz2 : w.heap.size < (wr.iterAt w.heap.size s (pos + 1)).heap.size := by rw [Lib.iterAt_size]; exact hsz
      obtain ⟨W, hW⟩ : ∃ W, W = wr.iterAt w.heap.size s (pos + 1) := ⟨_, rfl⟩
      rw [← hW] at hit2 hbw2 hsz2 hnx
      clear hW
      go_wp2
      obtain ⟨wo, rfl⟩ : ∃ wo : World, wo = wr := ⟨_, rfl⟩
      go_loopw [] (fun wi => ∃ (q : Nat), wi.heap[W.heap.size]? = some (.stringIter set q) ∧ wi.heap[w.heap.size]? = some (.stringIter s (pos + 1)) ∧ Below w.heap.size w wi ∧ q ≤ set.size ∧ (set.toList.take q).any (fun d => (d.toNat : Int) == ((s[pos]'hlt).toNat : Int)) = false) (fun wi => set.size - wi.iterPos W.heap.size)
      case atStart =>
        exact ⟨0, World.iter_heap W set 0, (Below.heap_alloc W _ _ hsz2).trans hit2, hbw2.alloc (by omega) _, Nat.zero_le _, rfl⟩
      case round =>
        obtain ⟨q, hiq, hip, hbi, hq, hnq⟩ := hrel
        have hszq : W.heap.size < wr.heap.size := (Array.getElem?_eq_some_iff.1 hiq).1
        clear hnx
        by_cases hlq : q < set.size
        · have hnx : ∀ ty, (Instr.next (.pointer (some ⟨W.heap.size, 0, none⟩)) true ty).run Tryd.prog wr = .ok (.tuple #[.bool true, .int .i64 q, .int .i32 ((set[q]'hlq).toNat : Int)]) (wr.iterAt W.heap.size set (q + 1)) := fun ty => by
            have h0 := Lib.run_next_any_at (P := Tryd.prog) wr W.heap.size set q ty hiq hlq
            rw [decode_ascii set q hlq (ha q hlq)] at h0
            exact h0
          have hbi2 := Lib.below_iterAt hbi (k := W.heap.size) (by omega) set (q + 1)
          have hip2 := (Lib.iterAt_other wr W.heap.size w.heap.size set (q + 1) (by omega)).trans hip
          by_cases hc : (((s[pos]'hlt).toNat : Int) == ((set[q]'hlq).toNat : Int)) = true
          · go_wp2
            go_ret
            refine ⟨?_, hbi2⟩
            have hin : inB set (s[pos]'hlt) = true := by
              unfold inB inSet
              rw [List.any_eq_true]
              refine ⟨set[q]'hlq, ?_, by rw [beq_iff_eq] at hc ⊢; exact hc.symm⟩
              rw [← getElem_toList set q hlq]
              exact List.getElem_mem _
            rw [placeOf_at s _ pos hlt hno hin]
            rfl
          · have hc' : (((s[pos]'hlt).toNat : Int) == ((set[q]'hlq).toNat : Int)) = false := by simpa using hc
            clear hc
            go_wp2
            go_roundw
            case rel =>
              refine ⟨q + 1, Lib.iterAt_heap wr W.heap.size set q _ hiq, hip2, hbi2, by omega, ?_⟩
              rw [take_next' set q hlq, List.any_append, hnq]
              simp only [List.any_cons, List.any_nil, Bool.or_false, Bool.false_or]
              rw [beq_eq_false_iff_ne] at hc' ⊢
              exact fun h => hc' h.symm
            case measure =>
              simp only [World.iterPos, Lib.iterAt_heap wr W.heap.size set q _ hiq, hiq]
              omega
        · have hnx : ∀ ty, (Instr.next (.pointer (some ⟨W.heap.size, 0, none⟩)) true ty).run Tryd.prog wr = _ := fun ty => Lib.run_next_end_at wr W.heap.size set q ty hiq hlq
          go_wp2
          go_roundw
          case rel =>
            refine ⟨pos + 1, hip, hbi, hlt, ?_⟩
            rw [List.take_of_length_le (by rw [len_toList]; omega)] at hnq
            rw [take_next' s pos hlt, List.any_append, hno]
            simp only [List.any_cons, List.any_nil, Bool.or_false, Bool.false_or]
            exact hnq
          case measure =>
            simp only [World.iterPos, hip, hit]
            omega
    · have hnx : ∀ ty, (Instr.next (.pointer (some ⟨w.heap.size, 0, none⟩)) true ty).run Tryd.prog wr = _ := fun ty => Lib.run_next_end_at wr w.heap.size s pos ty hit hlt
      go_wp2
      go_ret
      rw [List.take_of_length_le (by rw [len_toList]; omega)] at hno
      exact ⟨by rw [placeOf_no s _ hno]; rfl, hbw⟩

/-- Bytes below 128 alone. -/
def ascB (s : ByteArray) : Bool := s.toList.all (fun c => decide (c.toNat < 128))
theorem asc_of (s : ByteArray) (h : ascB s = true) : asc s := by
  intro i hi
  unfold ascB at h
  rw [List.all_eq_true] at h
  have := h (s[i]'hi) (by rw [← getElem_toList s i hi]; exact List.getElem_mem _)
  simpa using this
def semantic_zzIndexAny.f (a0 a1 : ByteArray) : Option Int := if ascB a0 = true ∧ ascB a1 = true ∧ a0.size ≤ 140737488351232 ∧ a1.size ≤ 140737488351232 then some (placeOf (inB a1) a0.toList) else none
theorem semantic_zzIndexAny.calls (a0 a1 : ByteArray) (r : Int) (w : World) (h : semantic_zzIndexAny.f a0 a1 = some r) :
    Calls Tryd.prog 29 #[.string a0, .string a1] w fun e w' => e = .returned (.int .i64 r) ∧ Below w.heap.size w w' := by
  unfold semantic_zzIndexAny.f at h
  split at h
  · next hc =>
    obtain rfl := Option.some.inj h
    exact indexAny_calls a0 a1 w (asc_of _ hc.1) (asc_of _ hc.2.1) hc.2.2.1 hc.2.2.2
  · exact absurd h (by simp)
end Go.Proofs.YtchnlfkdgajodaaDoor.Giv
