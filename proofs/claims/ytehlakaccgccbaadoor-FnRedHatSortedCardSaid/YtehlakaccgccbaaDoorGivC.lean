/- Contracts by hand: the search functions over texts. -/
import Derived.Test.YtehlakaccgccbaaDoorProg
import Derived.WalkKit
import Derived.BigCall
import Derived.Laws.RangeAny
import Derived.Lib.OthersKept
import Derived.Lib.IndexBytes
import Derived.Lib.Hide
namespace Go.Proofs.YtehlakaccgccbaaDoor.Giv
open Go.RowKit
set_option linter.unusedSimpArgs false
set_option linter.unusedVariables false

/-- Bytes below 128 alone. -/
def asc (s : ByteArray) : Prop := ∀ (i : Nat) (h : i < s.size), (s[i]'h).toNat < 128
theorem toList_eq' (s : ByteArray) : s.toList = s.data.toList := by first | exact ByteArray.toList_eq s | exact Go.Lib.toList_data s
theorem len_toList (s : ByteArray) : s.toList.length = s.size := by rw [toList_eq']; simp
theorem getElem_toList (s : ByteArray) (k : Nat) (h : k < s.size) : s.toList[k]'(by rw [len_toList]; exact h) = s[k]'h := by
  simp only [toList_eq']
  rfl
theorem take_next' (s : ByteArray) (k : Nat) (h : k < s.size) : s.toList.take (k + 1) = s.toList.take k ++ [s[k]'h] := by
  rw [List.take_succ_eq_append_getElem (by rw [len_toList]; exact h), getElem_toList s k h]
theorem drop_at (s : ByteArray) (k : Nat) (h : k < s.size) : s.toList.drop k = s[k]'h :: s.toList.drop (k + 1) := by
  rw [List.drop_eq_getElem_cons (by rw [len_toList]; exact h), getElem_toList s k h]
theorem dec_cases' (s : ByteArray) (pos : Nat) (h : pos < s.size) : ((s[pos]'h).toNat < 128 ∧ Utf8.decode s pos = ((s[pos]'h).toNat, 1)) ∨ (128 ≤ (s[pos]'h).toNat ∧ 128 ≤ (Utf8.decode s pos).1 ∧ 1 ≤ (Utf8.decode s pos).2) := by
  by_cases ha : (s[pos]'h).toNat < 128
  · exact .inl ⟨ha, decode_ascii s pos h ha⟩
  · exact .inr ⟨by omega, decode_high s pos h (by omega)⟩

/-- Does the set have this rune? -/
def inSet (c : Int) (set : ByteArray) : Bool := set.toList.any (fun d => (d.toNat : Int) == c)
theorem inSet_calls (c : Int) (set : ByteArray) (w : World) (ha : asc set) (hs : set.size ≤ 140737488351232) :
    Calls Tryd.prog 40 #[.int .i32 c, .string set] w fun e w' => e = .returned (.bool (inSet c set)) ∧ Below w.heap.size w w' := by
  go_enter Tryd.func40, Tryd.ntmps40
  go_wp2
  go_loopw [] (fun wr => ∃ (pos : Nat), wr.heap[w.heap.size]? = some (.stringIter set pos) ∧ Below w.heap.size w wr ∧ pos ≤ set.size ∧ (set.toList.take pos).any (fun d => (d.toNat : Int) == c) = false) (fun wr => set.size - wr.iterPos w.heap.size)
  case atStart =>
    exact ⟨0, World.iter_heap w set 0, (Below.refl _ w).alloc (Nat.le_refl _) _, Nat.zero_le _, rfl⟩
  case round =>
    obtain ⟨pos, hit, hbw, hp, hno⟩ := hrel
    have hsz : w.heap.size < wr.heap.size := (Array.getElem?_eq_some_iff.1 hit).1
    by_cases hlt : pos < set.size
    · have hnx : ∀ ty, (Instr.next (.pointer (some ⟨w.heap.size, 0, none⟩)) true ty).run Tryd.prog wr = .ok (.tuple #[.bool true, .int .i64 pos, .int .i32 ((set[pos]'hlt).toNat : Int)]) (wr.iterAt w.heap.size set (pos + 1)) := fun ty => by
        have h0 := Lib.run_next_any_at (P := Tryd.prog) wr w.heap.size set pos ty hit hlt
        rw [decode_ascii set pos hlt (ha pos hlt)] at h0
        exact h0
      have hbw2 := Lib.below_iterAt hbw (k := w.heap.size) (Nat.le_refl _) set (pos + 1)
      by_cases hc : (c == ((set[pos]'hlt).toNat : Int)) = true
      · go_wp2
        go_ret
        refine ⟨?_, hbw2⟩
        have : inSet c set = true := by
          unfold inSet
          rw [List.any_eq_true]
          refine ⟨set[pos]'hlt, ?_, by rw [beq_iff_eq] at hc ⊢; exact hc.symm⟩
          rw [toList_eq']
          exact List.getElem_mem (l := set.data.toList) (by simpa using hlt)
        rw [this]
        rfl
      · have hc' : (c == ((set[pos]'hlt).toNat : Int)) = false := by simpa using hc
        clear hc
        go_wp2
        go_roundw
        case rel =>
          refine ⟨pos + 1, Lib.iterAt_heap wr w.heap.size set pos _ hit, hbw2, by omega, ?_⟩
          rw [take_next' set pos hlt, List.any_append, hno]
          simp only [List.any_cons, List.any_nil, Bool.or_false, Bool.false_or]
          rw [beq_eq_false_iff_ne] at hc' ⊢
          exact fun h => hc' h.symm
        case measure =>
          simp only [World.iterPos, Lib.iterAt_heap wr w.heap.size set pos _ hit, hit]
          omega
    · have hnx : ∀ ty, (Instr.next (.pointer (some ⟨w.heap.size, 0, none⟩)) true ty).run Tryd.prog wr = _ := fun ty => Lib.run_next_end_at wr w.heap.size set pos ty hit hlt
      go_wp2
      go_ret
      rw [List.take_of_length_le (by rw [len_toList]; omega)] at hno
      exact ⟨by rw [inSet, hno]; rfl, hbw⟩

/-- Is this byte in the set? -/
def inB (set : ByteArray) (d : UInt8) : Bool := inSet (d.toNat : Int) set
theorem inB_iff (set : ByteArray) (d : UInt8) : inB set d = true ↔ d ∈ set.toList := by
  unfold inB inSet
  rw [List.any_eq_true]
  constructor
  · rintro ⟨x, hx, e⟩
    rw [beq_iff_eq] at e
    have : x = d := UInt8.toNat_inj.1 (by omega)
    rwa [← this]
  · intro h
    exact ⟨d, h, by simp⟩
theorem inSet_high (set : ByteArray) (ha : asc set) (c : Int) (h : 128 ≤ c) : inSet c set = false := by
  unfold inSet
  rw [List.any_eq_false]
  intro x hx
  obtain ⟨i, hi, e⟩ := List.mem_iff_getElem.1 hx
  rw [len_toList] at hi
  have := ha i hi
  rw [getElem_toList set i hi] at e
  rw [e] at this
  simp only [beq_iff_eq]
  omega
/-- The place of the first byte that has it, or -1. -/
def placeOf (p : UInt8 → Bool) (l : List UInt8) : Int := if l.any p then (l.findIdx p : Int) else -1

theorem trimLeft_calls (s set : ByteArray) (w : World) (ha : asc set) (hz : set.size ≤ 140737488351232) (hs : s.size ≤ 140737488351232) :
    Calls Tryd.prog 36 #[.string s, .string set] w fun e w' => e = .returned (.string ⟨(s.toList.dropWhile (inB set)).toArray⟩) ∧ Below w.heap.size w w' := by
  go_enter Tryd.func36, Tryd.ntmps36
  go_wp2
  go_loopw [] (fun wr => ∃ (pos : Nat), wr.heap[w.heap.size]? = some (.stringIter s pos) ∧ Below w.heap.size w wr ∧ pos ≤ s.size ∧ s.toList.dropWhile (inB set) = (s.toList.drop pos).dropWhile (inB set)) (fun wr => s.size - wr.iterPos w.heap.size)
  case atStart =>
    exact ⟨0, World.iter_heap w s 0, (Below.refl _ w).alloc (Nat.le_refl _) _, Nat.zero_le _, rfl⟩
  case round =>
    obtain ⟨pos, hit, hbw, hp, hno⟩ := hrel
    have hsz : w.heap.size < wr.heap.size := (Array.getElem?_eq_some_iff.1 hit).1
    by_cases hlt : pos < s.size
    · have hnx : ∀ ty, (Instr.next (.pointer (some ⟨w.heap.size, 0, none⟩)) true ty).run Tryd.prog wr = _ := fun ty => Lib.run_next_any_at wr w.heap.size s pos ty hit hlt
      have hbw2 := Lib.below_iterAt hbw (k := w.heap.size) (Nat.le_refl _) s (pos + (Utf8.decode s pos).2)
      have hit2 := Lib.iterAt_heap wr w.heap.size s pos (pos + (Utf8.decode s pos).2) hit
      by_cases hc : inSet ((Utf8.decode s pos).1 : Int) set = true
      · have hd : (s[pos]'hlt).toNat < 128 ∧ Utf8.decode s pos = ((s[pos]'hlt).toNat, 1) := by
          rcases dec_cases' s pos hlt with h | ⟨_, h, _⟩
          · exact h
          · rw [inSet_high set ha _ (by omega)] at hc
            exact absurd hc (by simp)
        have HD := Lib.hid hd.2
        clear hd
        go_wp2_with (go_at_call 40; refine (inSet_calls _ _ _ ha hz).mono ?_; rintro e w1 ⟨rfl, hb1⟩)
        have hit3 := (hb1.block w.heap.size (by simp only [Lib.iterAt_size]; exact hsz)).trans hit2
        go_roundw
        case rel =>
          refine ⟨pos + (Utf8.decode s pos).2, hit3, hbw2.trans (hb1.mono (by simp only [Lib.iterAt_size]; omega)), by rw [HD.out]; exact hlt, ?_⟩
          rw [hno, drop_at s pos hlt, List.dropWhile_cons_of_pos (by unfold inB; rw [HD.out] at hc; exact hc), HD.out]
        case measure =>
          simp only [World.iterPos, hit3, hit]
          rw [HD.out]
          omega
      · have hc' : inSet ((Utf8.decode s pos).1 : Int) set = false := by simpa using hc
        clear hc
        have hcb : inB set (s[pos]'hlt) = false := by
          rcases dec_cases' s pos hlt with ⟨_, h⟩ | ⟨h, _, _⟩
          · rw [h] at hc'
            exact hc'
          · exact inSet_high set ha _ (by omega)
        have hle : ((pos : Int) ≤ (s.size : Int)) = True := eq_true (by omega)
        have h0 : ((0 : Int) ≤ (pos : Int)) = True := eq_true (by omega)
        go_wp2_with (go_at_call 40; refine (inSet_calls _ _ _ ha hz).mono ?_; rintro e w1 ⟨rfl, hb1⟩)
        go_ret
        refine ⟨?_, hbw2.trans (hb1.mono (by simp only [Lib.iterAt_size]; omega))⟩
        rw [hno, drop_at s pos hlt, List.dropWhile_cons_of_neg (by simp [hcb]), ← drop_at s pos hlt, toList_eq', ← Lib.extract_to_end]
        rfl
    · have hnx : ∀ ty, (Instr.next (.pointer (some ⟨w.heap.size, 0, none⟩)) true ty).run Tryd.prog wr = _ := fun ty => Lib.run_next_end_at wr w.heap.size s pos ty hit hlt
      go_wp2
      go_ret
      rw [List.drop_of_length_le (by rw [len_toList]; omega)] at hno
      exact ⟨by rw [hno]; rfl, hbw⟩
end Go.Proofs.YtehlakaccgccbaaDoor.Giv
