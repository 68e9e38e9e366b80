/- Contracts by hand: isOnlyDigits, zzIndexAny. -/
import Derived.Test.YtehlakaccgccbaaDoorGivQ
namespace Go.Proofs.YtehlakaccgccbaaDoor.Giv
open Go.RowKit Go.Proofs.YtehlakaccgccbaaDoor.Ord
set_option linter.unusedSimpArgs false
set_option linter.unusedVariables false

def onlyDigits (s : ByteArray) : Bool := s.toList.all Rpm.dig
theorem all_no (s : ByteArray) (k : Nat) (h : k < s.size) (hd : Rpm.dig (s[k]'h) = false) : onlyDigits s = false := by
  unfold onlyDigits
  rw [List.all_eq_false]
  refine ⟨s[k]'h, ?_, by simp [hd]⟩
  rw [← getElem_toList s k h]
  exact List.getElem_mem _
theorem only_calls (s : ByteArray) (w : World) (hs : s.size ≤ 140737488351232) :
    Calls Tryd.prog 15 #[.string s] w fun e w' => e = .returned (.bool (onlyDigits s)) ∧ Below w.heap.size w w' := by
  go_enter Tryd.func15, Tryd.ntmps15
  go_wp2
  go_loopw [] (fun wr => ∃ (pos : Nat), wr.heap[w.heap.size]? = some (.stringIter s pos) ∧ Below w.heap.size w wr ∧ pos ≤ s.size ∧ (s.toList.take pos).all Rpm.dig = true) (fun wr => s.size - wr.iterPos w.heap.size)
  case atStart =>
    exact ⟨0, World.iter_heap w s 0, (Below.refl _ w).alloc (Nat.le_refl _) _, Nat.zero_le _, rfl⟩
  case round =>
    obtain ⟨pos, hit, hbw, hp, hall⟩ := hrel
    have hsz : w.heap.size < wr.heap.size := (Array.getElem?_eq_some_iff.1 hit).1
    by_cases hlt : pos < s.size
    · have hnx : ∀ ty, (Instr.next (.pointer (some ⟨w.heap.size, 0, none⟩)) true ty).run Tryd.prog wr = _ := fun ty => Lib.run_next_any_at wr w.heap.size s pos ty hit hlt
      have hbw2 := Lib.below_iterAt hbw (k := w.heap.size) (Nat.le_refl _) s (pos + (Utf8.decode s pos).2)
      by_cases hd : digI ((Utf8.decode s pos).1 : Int) = true
      · go_wp2_with (go_at_call 24; refine (runeDig_calls _ _).mono ?_; rintro e w' ⟨rfl, rfl⟩)
        go_roundw
        case rel =>
          obtain ⟨e1, _, e2⟩ := digI_yes s pos hlt hd
          refine ⟨pos + (Utf8.decode s pos).2, Lib.iterAt_heap wr w.heap.size s pos _ hit, hbw2, by rw [e1]; exact hlt, ?_⟩
          rw [e1, take_next' s pos hlt, List.all_append, hall]
          simp [e2]
        case measure =>
          obtain ⟨e1, _, e2⟩ := digI_yes s pos hlt hd
          simp only [World.iterPos, Lib.iterAt_heap wr w.heap.size s pos _ hit, hit]
          rw [e1]
          omega
      · have hd' : digI ((Utf8.decode s pos).1 : Int) = false := by simpa using hd
        go_wp2_with (go_at_call 24; refine (runeDig_calls _ _).mono ?_; rintro e w' ⟨rfl, rfl⟩)
        go_ret
        exact ⟨by rw [all_no s pos hlt (digI_no s pos hlt hd')]; rfl, hbw2⟩
    · have hnx : ∀ ty, (Instr.next (.pointer (some ⟨w.heap.size, 0, none⟩)) true ty).run Tryd.prog wr = _ := fun ty => Lib.run_next_end_at wr w.heap.size s pos ty hit hlt
      go_wp2
      go_ret
      rw [List.take_of_length_le (by rw [len_toList]; omega)] at hall
      exact ⟨by rw [onlyDigits, hall]; rfl, hbw⟩
def semantic_isOnlyDigits.f (a0 : ByteArray) : Option Bool := if a0.size ≤ 140737488351232 then some (onlyDigits a0) else none
theorem semantic_isOnlyDigits.calls (a0 : ByteArray) (r : Bool) (w : World) (h : semantic_isOnlyDigits.f a0 = some r) :
    Calls Tryd.prog 15 #[.string a0] w fun e w' => e = .returned (.bool r) ∧ Below w.heap.size w w' := by
  unfold semantic_isOnlyDigits.f at h
  by_cases hs : a0.size ≤ 140737488351232
  · rw [if_pos hs] at h
    obtain rfl := Option.some.inj h
    exact only_calls a0 w hs
  · rw [if_neg hs] at h
    exact absurd h (by simp)
end Go.Proofs.YtehlakaccgccbaaDoor.Giv
