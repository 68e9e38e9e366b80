/- Contracts by hand: the search functions over texts.
   Small tools for what is proved of the printed functions: rounds, places in texts, cuts. No program.
   Texts as lists of bytes: sizes, places, cuts. No program.
   Contracts by hand: the order of two texts. -/
import Derived.Test.YtnbpoplomdocjaaGreatDoorProg
import Derived.WalkKit
import Derived.BigCall
import Derived.Laws.RangeAny
import Derived.Lib.OthersKept
import Derived.Lib.IndexBytes
import Derived.Lib.Hide
import Derived.Test.YtnbpoplomdocjaaGreatDoorWWords
import Derived.Test.YtnbpoplomdocjaaGreatDoorWLast
import Derived.Test.YtnbpoplomdocjaaGreatDoorZA
import Derived.WalkLawsBesides
import Derived.Lib.Bytealg
namespace Go.Proofs.YtnbpoplomdocjaaGreatDoor.Giv
open Go.RowKit
set_option linter.unusedSimpArgs false
set_option linter.unusedVariables false

/-- Bytes below 128 alone. -/
def asc (s : ByteArray) : Prop := ∀ (i : Nat) (h : i < s.size), (s[i]'h).toNat < 128
theorem toList_eq' (s : ByteArray) : s.toList = s.data.toList := by first | exact ByteArray.toList_eq s | exact Go.Lib.toList_data s
theorem len_toList (s : ByteArray) : s.toList.length = s.size := by rw [toList_eq']; simp
theorem getElem_toList (s : ByteArray) (k : Nat) (h : k < s.size) : s.toList[k]'(by rw [len_toList]; exact h) = s[k]'h := by
  simp only [toList_eq']
  rfl
theorem take_next' (s : ByteArray) (k : Nat) (h : k < s.size) : s.toList.take (k + 1) = s.toList.take k ++ [s[k]'h] := by
  rw [List.take_succ_eq_append_getElem (by rw [len_toList]; exact h), getElem_toList s k h]
theorem drop_at (s : ByteArray) (k : Nat) (h : k < s.size) : s.toList.drop k = s[k]'h :: s.toList.drop (k + 1) := by
  rw [List.drop_eq_getElem_cons (by rw [len_toList]; exact h), getElem_toList s k h]
theorem dec_cases' (s : ByteArray) (pos : Nat) (h : pos < s.size) : ((s[pos]'h).toNat < 128 ∧ Utf8.decode s pos = ((s[pos]'h).toNat, 1)) ∨ (128 ≤ (s[pos]'h).toNat ∧ 128 ≤ (Utf8.decode s pos).1 ∧ 1 ≤ (Utf8.decode s pos).2) := by
  by_cases ha : (s[pos]'h).toNat < 128
  · exact .inl ⟨ha, decode_ascii s pos h ha⟩
  · exact .inr ⟨by omega, decode_high s pos h (by omega)⟩

/-- Does the set have this rune? -/
def inSet (c : Int) (set : ByteArray) : Bool := set.toList.any (fun d => (d.toNat : Int) == c)
theorem inSet_calls (c : Int) (set : ByteArray) (w : World) (ha : asc set) (hs : set.size ≤ 140737488351232) :
    Calls Tryz.prog 125 #[.int .i32 c, .string set] w fun e w' => e = .returned (.bool (inSet c set)) ∧ Below w.heap.size w w' := by
  go_enter Tryz.func125, Tryz.ntmps125
  go_wp2
  go_loopw [] (fun wr => ∃ (pos : Nat), wr.heap[w.heap.size]? = some (.stringIter set pos) ∧ Below w.heap.size w wr ∧ pos ≤ set.size ∧ (set.toList.take pos).any (fun d => (d.toNat : Int) == c) = false) (fun wr => set.size - wr.iterPos w.heap.size)
  case atStart =>
    exact ⟨0, World.iter_heap w set 0, (Below.refl _ w).alloc (Nat.le_refl _) _, Nat.zero_le _, rfl⟩
  case round =>
    obtain ⟨pos, hit, hbw, hp, hno⟩ := hrel
    have hsz : w.heap.size < wr.heap.size := (Array.getElem?_eq_some_iff.1 hit).1
    by_cases hlt : pos < set.size
    · have hnx : ∀ ty, (Instr.next (.pointer (some ⟨w.heap.size, 0, none⟩)) true ty).run Tryz.prog wr = .ok (.tuple #[.bool true, .int .i64 pos, .int .i32 ((set[pos]'hlt).toNat : Int)]) (wr.iterAt w.heap.size set (pos + 1)) := fun ty => by
        have h0 := Lib.run_next_any_at (P := Tryz.prog) wr w.heap.size set pos ty hit hlt
        rw [decode_ascii set pos hlt (ha pos hlt)] at h0
        exact h0
      have hbw2 := Lib.below_iterAt hbw (k := w.heap.size) (Nat.le_refl _) set (pos + 1)
      by_cases hc : (c == ((set[pos]'hlt).toNat : Int)) = true
      · go_wp2
        go_ret
        refine ⟨?_, hbw2⟩
        have : inSet c set = true := by
          unfold inSet
          rw [List.any_eq_true]
          refine ⟨set[pos]'hlt, ?_, by rw [beq_iff_eq] at hc ⊢; exact hc.symm⟩
          rw [toList_eq']
          exact List.getElem_mem (l := set.data.toList) (by simpa using hlt)
        rw [this]
        rfl
      · have hc' : (c == ((set[pos]'hlt).toNat : Int)) = false := by simpa using hc
        clear hc
        go_wp2
        go_roundw
        case rel =>
          refine ⟨pos + 1, Lib.iterAt_heap wr w.heap.size set pos _ hit, hbw2, by omega, ?_⟩
          rw [take_next' set pos hlt, List.any_append, hno]
          simp only [List.any_cons, List.any_nil, Bool.or_false, Bool.false_or]
          rw [beq_eq_false_iff_ne] at hc' ⊢
          exact fun h => hc' h.symm
        case measure =>
          simp only [World.iterPos, Lib.iterAt_heap wr w.heap.size set pos _ hit, hit]
          omega
    · have hnx : ∀ ty, (Instr.next (.pointer (some ⟨w.heap.size, 0, none⟩)) true ty).run Tryz.prog wr = _ := fun ty => Lib.run_next_end_at wr w.heap.size set pos ty hit hlt
      go_wp2
      go_ret
      rw [List.take_of_length_le (by rw [len_toList]; omega)] at hno
      exact ⟨by rw [inSet, hno]; rfl, hbw⟩

/-- Is this byte in the set? -/
def inB (set : ByteArray) (d : UInt8) : Bool := inSet (d.toNat : Int) set
theorem inB_iff (set : ByteArray) (d : UInt8) : inB set d = true ↔ d ∈ set.toList := by
  unfold inB inSet
  rw [List.any_eq_true]
  constructor
  · rintro ⟨x, hx, e⟩
    rw [beq_iff_eq] at e
    have : x = d := UInt8.toNat_inj.1 (by omega)
    rwa [← this]
  · intro h
    exact ⟨d, h, by simp⟩
theorem inSet_high (set : ByteArray) (ha : asc set) (c : Int) (h : 128 ≤ c) : inSet c set = false := by
  unfold inSet
  rw [List.any_eq_false]
  intro x hx
  obtain ⟨i, hi, e⟩ := List.mem_iff_getElem.1 hx
  rw [len_toList] at hi
  have := ha i hi
  rw [getElem_toList set i hi] at e
  rw [e] at this
  simp only [beq_iff_eq]
  omega
/-- The place of the first byte that has it, or -1. -/
def placeOf (p : UInt8 → Bool) (l : List UInt8) : Int := if l.any p then (l.findIdx p : Int) else -1

theorem trimLeft_calls (s set : ByteArray) (w : World) (ha : asc set) (hz : set.size ≤ 140737488351232) (hs : s.size ≤ 140737488351232) :
    Calls Tryz.prog 110 #[.string s, .string set] w fun e w' => e = .returned (.string ⟨(s.toList.dropWhile (inB set)).toArray⟩) ∧ Below w.heap.size w w' := by
  go_enter Tryz.func110, Tryz.ntmps110
  go_wp2
  go_loopw [] (fun wr => ∃ (pos : Nat), wr.heap[w.heap.size]? = some (.stringIter s pos) ∧ Below w.heap.size w wr ∧ pos ≤ s.size ∧ s.toList.dropWhile (inB set) = (s.toList.drop pos).dropWhile (inB set)) (fun wr => s.size - wr.iterPos w.heap.size)
  case atStart =>
    exact ⟨0, World.iter_heap w s 0, (Below.refl _ w).alloc (Nat.le_refl _) _, Nat.zero_le _, rfl⟩
  case round =>
    obtain ⟨pos, hit, hbw, hp, hno⟩ := hrel
    have hsz : w.heap.size < wr.heap.size := (Array.getElem?_eq_some_iff.1 hit).1
    by_cases hlt : pos < s.size
    · have hnx : ∀ ty, (Instr.next (.pointer (some ⟨w.heap.size, 0, none⟩)) true ty).run Tryz.prog wr = _ := fun ty => Lib.run_next_any_at wr w.heap.size s pos ty hit hlt
      have hbw2 := Lib.below_iterAt hbw (k := w.heap.size) (Nat.le_refl _) s (pos + (Utf8.decode s pos).2)
      have hit2 := Lib.iterAt_heap wr w.heap.size s pos (pos + (Utf8.decode s pos).2) hit
      by_cases hc : inSet ((Utf8.decode s pos).1 : Int) set = true
      · have hd : (s[pos]'hlt).toNat < 128 ∧ Utf8.decode s pos = ((s[pos]'hlt).toNat, 1) := by
          rcases dec_cases' s pos hlt with h | ⟨_, h, _⟩
          · exact h
          · rw [inSet_high set ha _ (by omega)] at hc
            exact absurd hc (by simp)
        have HD := Lib.hid hd.2
        clear hd
        go_wp2_with (go_at_call 125; refine (inSet_calls _ _ _ ha hz).mono ?_; rintro e w1 ⟨rfl, hb1⟩)
        have hit3 := (hb1.block w.heap.size (by simp only [Lib.iterAt_size]; exact hsz)).trans hit2
        go_roundw
        case rel =>
          refine ⟨pos + (Utf8.decode s pos).2, hit3, hbw2.trans (hb1.mono (by simp only [Lib.iterAt_size]; omega)), by rw [HD.out]; exact hlt, ?_⟩
          rw [hno, drop_at s pos hlt, List.dropWhile_cons_of_pos (by unfold inB; rw [HD.out] at hc; exact hc), HD.out]
        case measure =>
          simp only [World.iterPos, hit3, hit]
          rw [HD.out]
          omega
      · have hc' : inSet ((Utf8.decode s pos).1 : Int) set = false := by simpa using hc
        clear hc
        have hcb : inB set (s[pos]'hlt) = false := by
          rcases dec_cases' s pos hlt with ⟨_, h⟩ | ⟨h, _, _⟩
          · rw [h] at hc'
            exact hc'
          · exact inSet_high set ha _ (by omega)
        have hle : ((pos : Int) ≤ (s.size : Int)) = True := eq_true (by omega)
        have h0 : ((0 : Int) ≤ (pos : Int)) = True := eq_true (by omega)
        go_wp2_with (go_at_call 125; refine (inSet_calls _ _ _ ha hz).mono ?_; rintro e w1 ⟨rfl, hb1⟩)
        go_ret
        refine ⟨?_, hbw2.trans (hb1.mono (by simp only [Lib.iterAt_size]; omega))⟩
        rw [hno, drop_at s pos hlt, List.dropWhile_cons_of_neg (by simp [hcb]), ← drop_at s pos hlt, toList_eq', ← Lib.extract_to_end]
        rfl
    · have hnx : ∀ ty, (Instr.next (.pointer (some ⟨w.heap.size, 0, none⟩)) true ty).run Tryz.prog wr = _ := fun ty => Lib.run_next_end_at wr w.heap.size s pos ty hit hlt
      go_wp2
      go_ret
      rw [List.drop_of_length_le (by rw [len_toList]; omega)] at hno
      exact ⟨by rw [hno]; rfl, hbw⟩
end Go.Proofs.YtnbpoplomdocjaaGreatDoor.Giv

namespace Go.Proofs.YtnbpoplomdocjaaGreatDoor.Pk
open Go.RowKit Go.Proofs.YtnbpoplomdocjaaGreatDoorW.PrintWords Go.Proofs.YtnbpoplomdocjaaGreatDoorW.PrintLast Go.Proofs.YtnbpoplomdocjaaGreatDoor.Giv
set_option linter.unusedVariables false
set_option linter.unusedSimpArgs false

theorem ev_pos {α : Type} {c : Prop} [Decidable c] {f g : Nat → Option α} {r : α} (h : c) (e : Ev f r) : Ev (fun k => if c then f k else g k) r := by
  simpa [h] using e
theorem ev_neg {α : Type} {c : Prop} [Decidable c] {f g : Nat → Option α} {r : α} (h : ¬ c) (e : Ev g r) : Ev (fun k => if c then f k else g k) r := by
  simpa [h] using e
theorem ev_some {α β : Type} {a : α} {f : Nat → α → Option β} {r : β} (h : Ev (fun k => f k a) r) : Ev (fun k => (some a).bind (f k)) r := h
/-- It comes to an end with some answer. -/
def Tm {α : Type} (g : Nat → Option α) : Prop := ∃ r, Ev g r
theorem Tm.now {α : Type} (r : α) : Tm (fun _ => some r) := ⟨r, Ev.now r⟩
theorem Tm.ite {α : Type} {c : Prop} [Decidable c] {f g : Nat → Option α} (h : c → Tm f) (h' : ¬ c → Tm g) : Tm (fun k => if c then f k else g k) := by
  by_cases hc : c
  · obtain ⟨r, e⟩ := h hc
    exact ⟨r, ev_pos hc e⟩
  · obtain ⟨r, e⟩ := h' hc
    exact ⟨r, ev_neg hc e⟩
theorem Tm.bind {α β : Type} {g : Nat → Option α} {f : Nat → α → Option β} (h : Tm g) (k : ∀ a, Tm (fun n => f n a)) : Tm (fun n => (g n).bind (f n)) := by
  obtain ⟨a, e⟩ := h
  obtain ⟨r, e'⟩ := k a
  exact ⟨r, e.bind e'⟩
theorem Tm.step {α : Type} {g f : Nat → Option α} (h : ∀ k, g (k + 1) = f k) (k : Tm f) : Tm g := by
  obtain ⟨r, e⟩ := k
  exact ⟨r, Ev.step h e⟩

theorem wr (i : Nat) (h : i < 4611686018427387904) : wrap64 ((i : Int) + 1) = ((i + 1 : Nat) : Int) := by unfold wrap64; omega
theorem bt_nat (s : ByteArray) (i : Nat) (h : i < s.size) : bt s (i : Int) = ((s[i]'h).toNat : Int) := by
  unfold bt
  have e : (i : Int).toNat = i := Int.toNat_natCast i
  simp only [e, h, dif_pos]
theorem rdOf_nat {α : Type} (d : α) (xs : List α) (i : Nat) (h : i < xs.length) : rdOf d xs (i : Int) = xs[i]'h := by
  unfold rdOf
  rw [Int.toNat_natCast, List.getD_eq_getElem?_getD, List.getElem?_eq_getElem h]
  rfl
theorem rd_nat (xs : List Int) (i : Nat) (h : i < xs.length) : rd xs (i : Int) = xs[i]'h := by
  unfold rd
  rw [Int.toNat_natCast, List.getD_eq_getElem?_getD, List.getElem?_eq_getElem h]
  rfl
theorem ext_toList (s : ByteArray) (a b : Nat) : (s.extract a b).toList = (s.toList.drop a).take (b - a) := by
  rw [toList_eq', toList_eq']
  simp [ByteArray.data_extract]
theorem ext_all (s : ByteArray) (a : Nat) : (s.extract a s.size).toList = s.toList.drop a := by
  rw [ext_toList]
  exact List.take_of_length_le (by rw [List.length_drop, len_toList]; exact Nat.le_refl _)
theorem ext_head (s : ByteArray) (b : Nat) : (s.extract 0 b).toList = s.toList.take b := by
  rw [ext_toList]
  simp
theorem eq_of_toList {a b : ByteArray} (h : a.toList = b.toList) : a = b := by
  rw [toList_eq', toList_eq'] at h
  cases a
  cases b
  congr 1
  exact Array.toList_inj.1 h
theorem append_toList (a b : ByteArray) : (a ++ b).toList = a.toList ++ b.toList := by
  rw [toList_eq', toList_eq', toList_eq']
  simp
theorem lit_toList (l : List UInt8) : (⟨l.toArray⟩ : ByteArray).toList = l := by
  rw [toList_eq']

/-- A byte of a sort: its first place. -/
theorem placeOf_range (p : UInt8 → Bool) (l : List UInt8) : placeOf p l = -1 ∧ l.any p = false ∨ ∃ i : Nat, placeOf p l = i ∧ i < l.length ∧ (l.take i).any p = false ∧ ∃ h : i < l.length, p (l[i]'h) = true := by
  unfold placeOf
  by_cases ha : l.any p = true
  · right
    rw [if_pos ha]
    have hlt : l.findIdx p < l.length := by
      rw [List.findIdx_lt_length]
      simpa using ha
    refine ⟨l.findIdx p, rfl, hlt, ?_, hlt, List.findIdx_getElem (w := hlt)⟩
    rw [List.any_eq_false]
    intro x hx
    obtain ⟨j, hj, e⟩ := List.mem_iff_getElem.1 hx
    rw [List.length_take] at hj
    rw [List.getElem_take] at e
    have := List.not_of_lt_findIdx (p := p) (xs := l) (i := j) (by omega)
    rw [e] at this
    simpa using this
  · left
    rw [if_neg ha]
    exact ⟨rfl, by simpa using ha⟩
theorem placeOf_step (p : UInt8 → Bool) (l : List UInt8) (i : Nat) (hi : i < l.length) (hno : (l.take i).any p = false) (hy : p (l[i]'hi) = true) : placeOf p l = i := by
  rcases placeOf_range p l with ⟨_, hn⟩ | ⟨j, e, hj, hn, hj', hp⟩
  · rw [List.any_eq_false] at hn
    exact absurd hy (hn _ (List.getElem_mem hi))
  · rw [e]
    rcases Nat.lt_trichotomy j i with h | h | h
    · rw [List.any_eq_false] at hno
      have := hno (l[j]'hj') (List.mem_iff_getElem.2 ⟨j, by rw [List.length_take]; omega, by rw [List.getElem_take]⟩)
      exact absurd hp this
    · rw [h]
    · rw [List.any_eq_false] at hn
      have := hn (l[i]'hi) (List.mem_iff_getElem.2 ⟨i, by rw [List.length_take]; omega, by rw [List.getElem_take]⟩)
      exact absurd hy this
end Go.Proofs.YtnbpoplomdocjaaGreatDoor.Pk

namespace Go.Proofs.YtnbpoplomdocjaaGreatDoor.Pk
open Go.RowKit Go.Proofs.YtnbpoplomdocjaaGreatDoorW.PrintWords Go.Proofs.YtnbpoplomdocjaaGreatDoorW.PrintLast Go.Proofs.YtnbpoplomdocjaaGreatDoor.Giv
set_option linter.unusedVariables false

def bs (l : List UInt8) : ByteArray := ⟨l.toArray⟩
theorem bs_toList (l : List UInt8) : (bs l).toList = l := by unfold bs; rw [toList_eq']
theorem bs_eq {s : ByteArray} {l : List UInt8} (h : s.toList = l) : s = bs l := eq_of_toList (h.trans (bs_toList l).symm)
theorem bs_of (s : ByteArray) : s = bs s.toList := bs_eq rfl
theorem bs_size (l : List UInt8) : (bs l).size = l.length := by rw [← len_toList, bs_toList]
theorem bs_ext (l : List UInt8) (a b : Nat) : (bs l).extract a b = bs ((l.drop a).take (b - a)) := bs_eq (by rw [ext_toList, bs_toList])
theorem bs_extAll (l : List UInt8) (a : Nat) : (bs l).extract a (bs l).size = bs (l.drop a) := bs_eq (by rw [ext_all, bs_toList])
theorem bs_extHead (l : List UInt8) (b : Nat) : (bs l).extract 0 b = bs (l.take b) := bs_eq (by rw [ext_head, bs_toList])
theorem bs_append (a b : List UInt8) : bs a ++ bs b = bs (a ++ b) := bs_eq (by rw [append_toList, bs_toList, bs_toList])
theorem take_tw (p : UInt8 → Bool) (l : List UInt8) : l.take (l.takeWhile p).length = l.takeWhile p := by
  induction l with
  | nil => rfl
  | cons c r ih =>
    by_cases h : p c = true
    · rw [List.takeWhile_cons_of_pos h, List.length_cons, List.take_succ_cons, ih]
    · rw [List.takeWhile_cons_of_neg h]
      rfl
theorem drop_tw (p : UInt8 → Bool) (l : List UInt8) : l.drop (l.takeWhile p).length = l.dropWhile p := by
  induction l with
  | nil => rfl
  | cons c r ih =>
    by_cases h : p c = true
    · rw [List.takeWhile_cons_of_pos h, List.length_cons, List.drop_succ_cons, ih, List.dropWhile_cons_of_pos h]
    · rw [List.takeWhile_cons_of_neg h, List.dropWhile_cons_of_neg h]
      rfl
theorem tw_le (p : UInt8 → Bool) (l : List UInt8) : (l.takeWhile p).length ≤ l.length := List.Sublist.length_le (List.takeWhile_sublist _)
theorem dw_le (p : UInt8 → Bool) (l : List UInt8) : (l.dropWhile p).length ≤ l.length := List.Sublist.length_le (List.dropWhile_sublist _)
end Go.Proofs.YtnbpoplomdocjaaGreatDoor.Pk

namespace Go.Proofs.YtnbpoplomdocjaaGreatDoor.Giv
open Go.RowKit Go.Proofs.YtnbpoplomdocjaaGreatDoor.Ord
set_option linter.unusedSimpArgs false
set_option linter.unusedVariables false

theorem less_iff : ∀ a b : List UInt8, Op.bytesLess a b = true ↔ cS a b = -1
  | [], [] => by simp [Op.bytesLess, cS, lexL]
  | [], _ :: _ => by simp [Op.bytesLess, cS, lexL]
  | _ :: _, [] => by simp [Op.bytesLess, cS, lexL]
  | x :: xs, y :: ys => by
    have ih := less_iff xs ys
    have u : cS (x :: xs) (y :: ys) = if cB x y = 0 then cS xs ys else cB x y := rfl
    rw [u]
    simp only [Op.bytesLess, Bool.or_eq_true, Bool.and_eq_true, decide_eq_true_eq, beq_iff_eq, ih, UInt8.lt_iff_toNat_lt]
    by_cases z : cB x y = 0
    · have e := cB_zero.1 z
      subst e
      rw [if_pos z]
      simp
    · rw [if_neg z]
      have hne : x ≠ y := fun e => z (cB_zero.2 e)
      have v : cB x y = -1 ↔ x.toNat < y.toNat := by
        unfold cB
        rw [cI_neg]
        omega
      rw [v]
      simp [hne]
theorem less_cS (a b : List UInt8) : Op.bytesLess a b = decide (cS a b = -1) := by
  rw [Bool.eq_iff_iff, less_iff]
  simp
theorem beq_cS (a b : List UInt8) : (a == b) = decide (cS a b = 0) := by
  rw [Bool.eq_iff_iff]
  simp [cS_zero]
theorem compare_cS : ∀ a b : List UInt8, Lib.compareBytes a b = cS a b
  | [], [] => rfl
  | [], _ :: _ => rfl
  | _ :: _, [] => rfl
  | x :: xs, y :: ys => by
    have ih := compare_cS xs ys
    have u : cS (x :: xs) (y :: ys) = if cB x y = 0 then cS xs ys else cB x y := rfl
    rw [u]
    simp only [Lib.compareBytes, ih, cB, cI, UInt8.lt_iff_toNat_lt]
    repeat' split
    all_goals first | rfl | omega | (exfalso; omega)

def spec_order.f (a0 a1 : ByteArray) : Option Int := some (cS a0.toList a1.toList)
theorem spec_order.calls (a0 a1 : ByteArray) (r : Int) (w : World) (h : spec_order.f a0 a1 = some r) :
    Calls Tryz.prog 58 #[.string a0, .string a1] w fun e w' => e = .returned (.int .i64 r) ∧ ∃ n, w' = w.drewN n := by
  obtain rfl := Option.some.inj h
  clear h
  have hl := less_cS a0.toList a1.toList
  have hq := beq_cS a0.toList a1.toList
  rcases cS_cmp.rng a0.toList a1.toList with e | e | e
  · rw [e] at hl hq ⊢
    have hl' : Op.bytesLess a0.toList a1.toList = true := by simpa using hl
    clear hl hq e
    go_enter Tryz.func58, Tryz.ntmps58
    go_wp2
    go_ret
    exact ⟨rfl, 0, rfl⟩
  · rw [e] at hl hq ⊢
    have hl' : Op.bytesLess a0.toList a1.toList = false := by simpa using hl
    have hq' : (a0.toList == a1.toList) = true := by simpa using hq
    clear hl hq e
    go_enter Tryz.func58, Tryz.ntmps58
    go_wp2
    go_ret
    exact ⟨rfl, 0, rfl⟩
  · rw [e] at hl hq ⊢
    have hl' : Op.bytesLess a0.toList a1.toList = false := by simpa using hl
    have hq' : (a0.toList == a1.toList) = false := by simpa using hq
    clear hl hq e
    go_enter Tryz.func58, Tryz.ntmps58
    go_wp2
    go_ret
    exact ⟨rfl, 0, rfl⟩
end Go.Proofs.YtnbpoplomdocjaaGreatDoor.Giv
