/- Several texts of this claim in one. Put together by wip/tool/merge.py. -/
import Derived.Test.YtnbpoplomdocjaaGreatDoorZA
import Derived.Test.YtnbpoplomdocjaaGreatDoorZK
import Derived.Test.YtnbpoplomdocjaaGreatDoorZD
import Derived.Test.YtnbpoplomdocjaaGreatDoorWMore
import Derived.Lib.DecodeN
import Derived.Lib.SpaceUEq
import Derived.Lib.FieldsU
import Derived.Test.YtnbpoplomdocjaaGreatDoorZC
import Derived.Test.YtnbpoplomdocjaaGreatDoorQFx1
import Derived.Test.YtnbpoplomdocjaaGreatDoorQWx1
/- Debian's order of parts in plain Lean: by what stands ahead of digits, then by the digits' number, again and again. No program. -/
namespace Go.Proofs.YtnbpoplomdocjaaGreatDoor.Deb
open Go.Proofs.YtnbpoplomdocjaaGreatDoor.Ord Go.Proofs.YtnbpoplomdocjaaGreatDoor.Rpm
set_option linter.unusedVariables false

/-- Where a byte of what stands ahead of digits stands: a tilde, the end, letters, all else. -/
def isLet (c : UInt8) : Bool := decide (65 ≤ c.toNat ∧ c.toNat ≤ 90 ∨ 97 ≤ c.toNat ∧ c.toNat ≤ 122)
def wtB (c : UInt8) : Int := if c.toNat = 126 then -1 else if isLet c then (c.toNat : Int) else (c.toNat : Int) + 256
def wt : Option UInt8 → Int
  | none => 0
  | some c => wtB c
def nd (l : List UInt8) : List UInt8 := l.takeWhile (fun c => !dig c)
def nr (l : List UInt8) : List UInt8 := l.dropWhile (fun c => !dig c)
def dg (l : List UInt8) : List UInt8 := (nr l).takeWhile dig
def rest (l : List UInt8) : List UInt8 := (nr l).dropWhile dig
theorem split_all (l : List UInt8) : nd l ++ (dg l ++ rest l) = l := by
  unfold nd dg rest nr
  rw [List.takeWhile_append_dropWhile, List.takeWhile_append_dropWhile]
theorem rest_lt {l : List UInt8} (h : l ≠ []) : (rest l).length < l.length := by
  have e := congrArg List.length (split_all l)
  rw [List.length_append, List.length_append] at e
  have : 0 < (nd l).length + (dg l).length := by
    cases l with
    | nil => exact absurd rfl h
    | cons c r =>
      cases hd : dig c with
      | false =>
        have : nd (c :: r) = c :: nd r := by unfold nd; rw [List.takeWhile_cons]; simp [hd]
        rw [this, List.length_cons]
        omega
      | true =>
        have h1 : nr (c :: r) = c :: r := by unfold nr; rw [List.dropWhile_cons]; simp [hd]
        have : dg (c :: r) = c :: r.takeWhile dig := by unfold dg; rw [h1, List.takeWhile_cons]; simp [hd]
        rw [this, List.length_cons]
        omega
  omega
def chunksN : Nat → List UInt8 → List (List UInt8 × List UInt8)
  | 0, _ => []
  | n + 1, l => if l = [] then [] else (nd l, dg l) :: chunksN n (rest l)
def chunks (l : List UInt8) : List (List UInt8 × List UInt8) := chunksN l.length l
end Go.Proofs.YtnbpoplomdocjaaGreatDoor.Deb
/- Debian's versions in plain Lean: what a text falls into, how two of these compare; what stands behind a text, zeros ahead of numbers. No program. -/
namespace Go.Proofs.YtnbpoplomdocjaaGreatDoor.Deb
open Go.Proofs.YtnbpoplomdocjaaGreatDoor.Ord Go.Proofs.YtnbpoplomdocjaaGreatDoor.Rpm
set_option linter.unusedVariables false

/-- Cut at the last c. -/
def cutLast (c : UInt8) : List UInt8 → Option (List UInt8 × List UInt8)
  | [] => none
  | x :: r => match cutLast c r with
    | some (u, v) => some (x :: u, v)
    | none => if x = c then some ([], r) else none
theorem cutLast_cons (c x : UInt8) (r : List UInt8) : cutLast c (x :: r) = match cutLast c r with | some (u, v) => some (x :: u, v) | none => if x = c then some ([], r) else none := by rw [cutLast]
theorem cutLast_none (c : UInt8) : ∀ l : List UInt8, cutLast c l = none ↔ l.any (fun x => x == c) = false
  | [] => ⟨fun _ => rfl, fun _ => rfl⟩
  | x :: r => by
    have ih := cutLast_none c r
    rw [List.any_cons, Bool.or_eq_false_iff, ← ih]
    rw [cutLast_cons]
    cases h : cutLast c r with
    | some p => simp
    | none =>
      by_cases hx : x = c
      · simp [hx]
      · simp [hx]
theorem cutLast_some (c : UInt8) : ∀ {l u v : List UInt8}, cutLast c l = some (u, v) → l = u ++ c :: v ∧ v.any (fun x => x == c) = false
  | [], u, v, h => by simp [cutLast] at h
  | x :: r, u, v, h => by
    rw [cutLast_cons] at h
    cases hr : cutLast c r with
    | some p =>
      rw [hr] at h
      obtain ⟨p1, p2⟩ := p
      have h := Option.some.inj h
      injection h with h1 h2
      obtain ⟨e1, e2⟩ := cutLast_some c hr
      rw [← h1, ← h2, e1]
      exact ⟨rfl, e2⟩
    | none =>
      rw [hr] at h
      have h : (if x = c then some (([] : List UInt8), r) else none) = some (u, v) := h
      by_cases hx : x = c
      · rw [if_pos hx] at h
        have h := Option.some.inj h
        injection h with h1 h2
        rw [← h1, ← h2, hx]
        exact ⟨rfl, (cutLast_none c r).1 hr⟩
      · rw [if_neg hx] at h
        exact absurd h (by simp)
/-- An upstream version and a revision: cut at the last hyphen; without one the revision is 0. -/
def urv (t : List UInt8) : List UInt8 × List UInt8 := (cutLast 45 t).getD (t, [48])
/-- What a text without blanks around falls into: its epoch (none is 0), upstream version and revision. -/
def dvp (t : List UInt8) : Option (Int × List UInt8 × List UInt8) :=
  if t.any (fun x => x == 58) = true then (Num.parse (Cut.upTo 58 t)).map (fun z => (z, urv (t.drop ((Cut.upTo 58 t).length + 1)))) else some (0, urv t)
/-- A blank; a text without blanks around. -/
def sp (c : UInt8) : Bool := decide (c.toNat = 32 ∨ 9 ≤ c.toNat ∧ c.toNat ≤ 13)
end Go.Proofs.YtnbpoplomdocjaaGreatDoor.Deb
/- Contract by hand: zzIndexAny, where both texts are ASCII. -/
namespace Go.Proofs.YtnbpoplomdocjaaGreatDoor.Giv
open Go.RowKit
set_option linter.unusedSimpArgs false
set_option linter.unusedVariables false

theorem placeOf_at (s : ByteArray) (f : UInt8 → Bool) (p : Nat) (h : p < s.size) (hno : (s.toList.take p).any f = false) (hy : f (s[p]'h) = true) : placeOf f s.toList = p := by
  have e : s.toList = s.toList.take p ++ (s[p]'h :: s.toList.drop (p + 1)) := by rw [← drop_at s p h, List.take_append_drop]
  unfold placeOf
  have ha : s.toList.any f = true := by
    rw [e, List.any_append]
    simp [hy]
  rw [if_pos ha, e, List.findIdx_append]
  have hl : (s.toList.take p).findIdx f = (s.toList.take p).length := List.findIdx_eq_length.2 (by simpa using hno)
  rw [hl, if_neg (by omega), List.findIdx_cons, hy, List.length_take, len_toList]
  simp
  omega
theorem placeOf_no (s : ByteArray) (f : UInt8 → Bool) (hno : s.toList.any f = false) : placeOf f s.toList = -1 := by
  unfold placeOf
  rw [if_neg (by simp [hno])]

set_option maxHeartbeats 1000000 in
set_option maxRecDepth 100000 in
theorem indexAny_calls (s set : ByteArray) (w : World) (hs : asc s) (ha : asc set) (hz : s.size ≤ 140737488351232) (hz' : set.size ≤ 140737488351232) :
    Calls Tryz.prog 122 #[.string s, .string set] w fun e w' => e = .returned (.int .i64 (placeOf (inB set) s.toList)) ∧ Below w.heap.size w w' := by
  go_enter Tryz.func122, Tryz.ntmps122
  go_wp2
  go_loopw [] (fun wr => ∃ (pos : Nat), wr.heap[w.heap.size]? = some (.stringIter s pos) ∧ Below w.heap.size w wr ∧ pos ≤ s.size ∧ (s.toList.take pos).any (inB set) = false) (fun wr => s.size - wr.iterPos w.heap.size)
  case atStart =>
    exact ⟨0, World.iter_heap w s 0, (Below.refl _ w).alloc (Nat.le_refl _) _, Nat.zero_le _, rfl⟩
  case round =>
    obtain ⟨pos, hit, hbw, hp, hno⟩ := hrel
    have hsz : w.heap.size < wr.heap.size := (Array.getElem?_eq_some_iff.1 hit).1
    by_cases hlt : pos < s.size
    · have hnx : ∀ ty, (Instr.next (.pointer (some ⟨w.heap.size, 0, none⟩)) true ty).run Tryz.prog wr = .ok (.tuple #[.bool true, .int .i64 pos, .int .i32 ((s[pos]'hlt).toNat : Int)]) (wr.iterAt w.heap.size s (pos + 1)) := fun ty => by
        have h0 := Lib.run_next_any_at (P := Tryz.prog) wr w.heap.size s pos ty hit hlt
        rw [decode_ascii s pos hlt (hs pos hlt)] at h0
        exact h0
      have hit2 := Lib.iterAt_heap wr w.heap.size s pos (pos + 1) hit
      have hbw2 := Lib.below_iterAt hbw (k := w.heap.size) (Nat.le_refl _) s (pos + 1)
      have hsz2 : w.heap.size < (wr.iterAt w.heap.size s (pos + 1)).heap.size := by rw [Lib.iterAt_size]; exact hsz
      obtain ⟨W, hW⟩ : ∃ W, W = wr.iterAt w.heap.size s (pos + 1) := ⟨_, rfl⟩
      rw [← hW] at hit2 hbw2 hsz2 hnx
      clear hW
      go_wp2
      obtain ⟨wo, rfl⟩ : ∃ wo : World, wo = wr := ⟨_, rfl⟩
      go_loopw [] (fun wi => ∃ (q : Nat), wi.heap[W.heap.size]? = some (.stringIter set q) ∧ wi.heap[w.heap.size]? = some (.stringIter s (pos + 1)) ∧ Below w.heap.size w wi ∧ q ≤ set.size ∧ (set.toList.take q).any (fun d => (d.toNat : Int) == ((s[pos]'hlt).toNat : Int)) = false) (fun wi => set.size - wi.iterPos W.heap.size)
      case atStart =>
        exact ⟨0, World.iter_heap W set 0, (Below.heap_alloc W _ _ hsz2).trans hit2, hbw2.alloc (by omega) _, Nat.zero_le _, rfl⟩
      case round =>
        obtain ⟨q, hiq, hip, hbi, hq, hnq⟩ := hrel
        have hszq : W.heap.size < wr.heap.size := (Array.getElem?_eq_some_iff.1 hiq).1
        clear hnx
        by_cases hlq : q < set.size
        · have hnx : ∀ ty, (Instr.next (.pointer (some ⟨W.heap.size, 0, none⟩)) true ty).run Tryz.prog wr = .ok (.tuple #[.bool true, .int .i64 q, .int .i32 ((set[q]'hlq).toNat : Int)]) (wr.iterAt W.heap.size set (q + 1)) := fun ty => by
            have h0 := Lib.run_next_any_at (P := Tryz.prog) wr W.heap.size set q ty hiq hlq
            rw [decode_ascii set q hlq (ha q hlq)] at h0
            exact h0
          have hbi2 := Lib.below_iterAt hbi (k := W.heap.size) (by omega) set (q + 1)
          have hip2 := (Lib.iterAt_other wr W.heap.size w.heap.size set (q + 1) (by omega)).trans hip
          by_cases hc : (((s[pos]'hlt).toNat : Int) == ((set[q]'hlq).toNat : Int)) = true
          · go_wp2
            go_ret
            refine ⟨?_, hbi2⟩
            have hin : inB set (s[pos]'hlt) = true := by
              unfold inB inSet
              rw [List.any_eq_true]
              refine ⟨set[q]'hlq, ?_, by rw [beq_iff_eq] at hc ⊢; exact hc.symm⟩
              rw [← getElem_toList set q hlq]
              exact List.getElem_mem _
            rw [placeOf_at s _ pos hlt hno hin]
            rfl
          · have hc' : (((s[pos]'hlt).toNat : Int) == ((set[q]'hlq).toNat : Int)) = false := by simpa using hc
            clear hc
            go_wp2
            go_roundw
            case rel =>
              refine ⟨q + 1, Lib.iterAt_heap wr W.heap.size set q _ hiq, hip2, hbi2, by omega, ?_⟩
              rw [take_next' set q hlq, List.any_append, hnq]
              simp only [List.any_cons, List.any_nil, Bool.or_false, Bool.false_or]
              rw [beq_eq_false_iff_ne] at hc' ⊢
              exact fun h => hc' h.symm
            case measure =>
              simp only [World.iterPos, Lib.iterAt_heap wr W.heap.size set q _ hiq, hiq]
              omega
        · have hnx : ∀ ty, (Instr.next (.pointer (some ⟨W.heap.size, 0, none⟩)) true ty).run Tryz.prog wr = _ := fun ty => Lib.run_next_end_at wr W.heap.size set q ty hiq hlq
          go_wp2
          go_roundw
          case rel =>
            refine ⟨pos + 1, hip, hbi, hlt, ?_⟩
            rw [List.take_of_length_le (by rw [len_toList]; omega)] at hnq
            rw [take_next' s pos hlt, List.any_append, hno]
            simp only [List.any_cons, List.any_nil, Bool.or_false, Bool.false_or]
            exact hnq
          case measure =>
            simp only [World.iterPos, hip, hit]
            omega
    · have hnx : ∀ ty, (Instr.next (.pointer (some ⟨w.heap.size, 0, none⟩)) true ty).run Tryz.prog wr = _ := fun ty => Lib.run_next_end_at wr w.heap.size s pos ty hit hlt
      go_wp2
      go_ret
      rw [List.take_of_length_le (by rw [len_toList]; omega)] at hno
      exact ⟨by rw [placeOf_no s _ hno]; rfl, hbw⟩

/-- Bytes below 128 alone. -/
def ascB (s : ByteArray) : Bool := s.toList.all (fun c => decide (c.toNat < 128))
theorem asc_of (s : ByteArray) (h : ascB s = true) : asc s := by
  intro i hi
  unfold ascB at h
  rw [List.all_eq_true] at h
  have := h (s[i]'hi) (by rw [← getElem_toList s i hi]; exact List.getElem_mem _)
  simpa using this
def semantic_zzIndexAny.f (a0 a1 : ByteArray) : Option Int := if ascB a0 = true ∧ ascB a1 = true ∧ a0.size ≤ 140737488351232 ∧ a1.size ≤ 140737488351232 then some (placeOf (inB a1) a0.toList) else none
theorem semantic_zzIndexAny.calls (a0 a1 : ByteArray) (r : Int) (w : World) (h : semantic_zzIndexAny.f a0 a1 = some r) :
    Calls Tryz.prog 122 #[.string a0, .string a1] w fun e w' => e = .returned (.int .i64 r) ∧ Below w.heap.size w w' := by
  unfold semantic_zzIndexAny.f at h
  split at h
  · next hc =>
    obtain rfl := Option.some.inj h
    exact indexAny_calls a0 a1 w (asc_of _ hc.1) (asc_of _ hc.2.1) hc.2.2.1 hc.2.2.2
  · exact absurd h (by simp)
end Go.Proofs.YtnbpoplomdocjaaGreatDoor.Giv
/- Contracts by hand, of any text: what a rune covers; zzIndexAny at a set of bytes below 128; the first byte that is no digit. -/
namespace Go.Proofs.YtnbpoplomdocjaaGreatDoor.Giv
open Go.RowKit Go.Proofs.YtnbpoplomdocjaaGreatDoorW.PrintWords Go.Proofs.YtnbpoplomdocjaaGreatDoorW.PrintLast Go.Proofs.YtnbpoplomdocjaaGreatDoor.Pk Go.Proofs.YtnbpoplomdocjaaGreatDoor.Ord
set_option linter.unusedSimpArgs false
set_option linter.unusedVariables false

theorem get_at {s : ByteArray} {i : Nat} {c : UInt8} (h : s.toList[i]? = some c) : s.get! i = c := by
  rw [toList_eq', Array.getElem?_toList] at h
  obtain ⟨hi, e⟩ := Array.getElem?_eq_some_iff.1 h
  rw [← e]
  exact getElem!_pos s.data i hi
/-- What a rune covers: bytes from 128 on behind its first one. -/
theorem dec_cover (s : ByteArray) (pos : Nat) (h : pos < s.size) : pos + (Utf8.decode s pos).2 ≤ s.size ∧ 1 ≤ (Utf8.decode s pos).2 ∧ ∀ j, 1 ≤ j → j < (Utf8.decode s pos).2 → ∀ c, s.toList[pos + j]? = some c → 128 ≤ c.toNat := by
  have e := Lib.decode_at s pos
  have cc := Lib.decodeN_conts (s.size - pos) (s.get! pos).toNat (s.get! (pos + 1)).toNat (s.get! (pos + 2)).toNat (s.get! (pos + 3)).toNat
  have le := Lib.decodeN_le_n' (s.size - pos) (s.get! pos).toNat (s.get! (pos + 1)).toNat (s.get! (pos + 2)).toNat (s.get! (pos + 3)).toNat (by omega)
  rw [← e] at cc le
  obtain ⟨c1, c2, c3, c4⟩ := cc
  have d1 : 1 ≤ (Utf8.decode s pos).2 := by
    rcases dec_cases' s pos h with ⟨_, e⟩ | ⟨_, _, hc⟩
    · rw [e]
      exact Nat.le_refl _
    · omega
  generalize Utf8.decode s pos = dk at *
  refine ⟨by omega, d1, fun j h1 h2 c hc => ?_⟩
  rcases (show j = 1 ∨ j = 2 ∨ j = 3 by omega) with rfl | rfl | rfl
  · have := (c1 (by omega)).1
    rw [get_at hc] at this
    omega
  · have := (c2 (by omega)).1
    rw [get_at hc] at this
    omega
  · have := (c3 (by omega)).1
    rw [get_at hc] at this
    omega
theorem take_any {s : ByteArray} {pos : Nat} {f : UInt8 → Bool} (h : pos < s.size) (hno : (s.toList.take pos).any f = false) (h0 : f (s[pos]'h) = false) (hf : ∀ c : UInt8, 128 ≤ c.toNat → f c = false) : (s.toList.take (pos + (Utf8.decode s pos).2)).any f = false := by
  obtain ⟨hle, h1, hc⟩ := dec_cover s pos h
  generalize (Utf8.decode s pos).2 = k at *
  rw [List.any_eq_false] at hno ⊢
  intro x hx
  obtain ⟨i, hi, rfl⟩ := List.mem_iff_getElem.1 hx
  rw [List.length_take] at hi
  rw [List.getElem_take]
  have hs : i < s.toList.length := by omega
  rcases Nat.lt_trichotomy i pos with hl | rfl | hg
  · exact hno _ (List.mem_iff_getElem.2 ⟨i, by rw [List.length_take]; omega, List.getElem_take⟩)
  · rw [getElem_toList s i h, h0]
    exact Bool.false_ne_true
  · rw [hf _ (hc (i - pos) (by omega) (by omega) _ (by rw [show pos + (i - pos) = i by omega]; exact List.getElem?_eq_getElem hs))]
    exact Bool.false_ne_true
theorem inB_high {set : ByteArray} (ha : asc set) (c : UInt8) (h : 128 ≤ c.toNat) : inB set c = false := by
  unfold inB inSet
  rw [List.any_eq_false]
  intro d hd
  obtain ⟨i, hi, rfl⟩ := List.mem_iff_getElem.1 hd
  have hi' : i < set.size := by rw [← len_toList]; exact hi
  have := ha i hi'
  rw [getElem_toList set i hi', beq_iff_eq]
  omega
/-- The bytes of a rune that is not in the set. -/
theorem inB_rune {s set : ByteArray} (ha : asc set) (pos : Nat) (h : pos < s.size) (hn : set.toList.any (fun d => (d.toNat : Int) == ((Utf8.decode s pos).1 : Int)) = false) : inB set (s[pos]'h) = false := by
  rcases dec_cases' s pos h with ⟨_, e⟩ | ⟨hh, _, _⟩
  · rw [e] at hn
    exact hn
  · exact inB_high ha _ hh
theorem rune_low {s : ByteArray} (pos : Nat) (h : pos < s.size) (d : UInt8) (hd : d.toNat < 128) (e : ((Utf8.decode s pos).1 : Int) = (d.toNat : Int)) : s[pos]'h = d := by
  rcases dec_cases' s pos h with ⟨_, e1⟩ | ⟨_, h2, _⟩
  · rw [e1] at e
    exact UInt8.toNat_inj.1 (Int.ofNat.inj e)
  · omega
set_option maxHeartbeats 2000000 in
set_option maxRecDepth 100000 in
theorem idxAny_calls (s set : ByteArray) (w : World) (ha : asc set) (hz : s.size ≤ 140737488351232) (hz' : set.size ≤ 140737488351232) :
    Calls Tryz.prog 122 #[.string s, .string set] w fun e w' => e = .returned (.int .i64 (placeOf (inB set) s.toList)) ∧ Below w.heap.size w w' := by
  go_enter Tryz.func122, Tryz.ntmps122
  go_wp2
  go_loopw [] (fun wr => ∃ (pos : Nat), wr.heap[w.heap.size]? = some (.stringIter s pos) ∧ Below w.heap.size w wr ∧ pos ≤ s.size ∧ (s.toList.take pos).any (inB set) = false) (fun wr => s.size - wr.iterPos w.heap.size)
  case atStart =>
    exact ⟨0, World.iter_heap w s 0, (Below.refl _ w).alloc (Nat.le_refl _) _, Nat.zero_le _, rfl⟩
  case round =>
    obtain ⟨pos, hit, hbw, hp, hno⟩ := hrel
    have hsz : w.heap.size < wr.heap.size := (Array.getElem?_eq_some_iff.1 hit).1
    by_cases hlt : pos < s.size
    · have hnx : ∀ ty, (Instr.next (.pointer (some ⟨w.heap.size, 0, none⟩)) true ty).run Tryz.prog wr = .ok (.tuple #[.bool true, .int .i64 pos, .int .i32 ((Utf8.decode s pos).1 : Int)]) (wr.iterAt w.heap.size s (pos + (Utf8.decode s pos).2)) := fun ty => Lib.run_next_any_at (P := Tryz.prog) wr w.heap.size s pos ty hit hlt
      have cov := dec_cover s pos hlt
      have tk := fun h0 => take_any (f := inB set) hlt hno h0 (inB_high ha)
      have ir := inB_rune ha pos hlt
      have rl := rune_low pos hlt
      have hit2 := Lib.iterAt_heap wr w.heap.size s pos (pos + (Utf8.decode s pos).2) hit
      have hbw2 := Lib.below_iterAt hbw (k := w.heap.size) (Nat.le_refl _) s (pos + (Utf8.decode s pos).2)
      generalize Utf8.decode s pos = dk at *
      obtain ⟨r, k⟩ := dk
      dsimp only at hnx cov tk ir rl hit2 hbw2
      have hsz2 : w.heap.size < (wr.iterAt w.heap.size s (pos + k)).heap.size := by rw [Lib.iterAt_size]; exact hsz
      obtain ⟨W, hW⟩ : ∃ W, W = wr.iterAt w.heap.size s (pos + k) := ⟨_, rfl⟩
      rw [← hW] at hit2 hbw2 hsz2 hnx
      clear hW
      go_wp2
      obtain ⟨wo, rfl⟩ : ∃ wo : World, wo = wr := ⟨_, rfl⟩
      go_loopw [] (fun wi => ∃ (q : Nat), wi.heap[W.heap.size]? = some (.stringIter set q) ∧ wi.heap[w.heap.size]? = some (.stringIter s (pos + k)) ∧ Below w.heap.size w wi ∧ q ≤ set.size ∧ (set.toList.take q).any (fun d => (d.toNat : Int) == (r : Int)) = false) (fun wi => set.size - wi.iterPos W.heap.size)
      case atStart =>
        exact ⟨0, World.iter_heap W set 0, (Below.heap_alloc W _ _ hsz2).trans hit2, hbw2.alloc (by omega) _, Nat.zero_le _, rfl⟩
      case round =>
        obtain ⟨q, hiq, hip, hbi, hq, hnq⟩ := hrel
        have hszq : W.heap.size < wr.heap.size := (Array.getElem?_eq_some_iff.1 hiq).1
        clear hnx
        by_cases hlq : q < set.size
        · have hnx : ∀ ty, (Instr.next (.pointer (some ⟨W.heap.size, 0, none⟩)) true ty).run Tryz.prog wr = .ok (.tuple #[.bool true, .int .i64 q, .int .i32 ((set[q]'hlq).toNat : Int)]) (wr.iterAt W.heap.size set (q + 1)) := fun ty => by
            have h0 := Lib.run_next_any_at (P := Tryz.prog) wr W.heap.size set q ty hiq hlq
            rw [decode_ascii set q hlq (ha q hlq)] at h0
            exact h0
          have hbi2 := Lib.below_iterAt hbi (k := W.heap.size) (by omega) set (q + 1)
          have hip2 := (Lib.iterAt_other wr W.heap.size w.heap.size set (q + 1) (by omega)).trans hip
          by_cases hc : ((r : Int) == ((set[q]'hlq).toNat : Int)) = true
          · have e := rl _ (ha q hlq) (by simpa using hc)
            go_wp2
            go_ret
            refine ⟨?_, hbi2⟩
            have hin : inB set (s[pos]'hlt) = true := by
              rw [e]
              unfold inB inSet
              rw [List.any_eq_true]
              refine ⟨set[q]'hlq, ?_, by rw [beq_iff_eq]⟩
              rw [← getElem_toList set q hlq]
              exact List.getElem_mem _
            rw [placeOf_at s _ pos hlt hno hin]
            rfl
          · have hc' : ((r : Int) == ((set[q]'hlq).toNat : Int)) = false := by simpa using hc
            clear hc
            go_wp2
            go_roundw
            case rel =>
              refine ⟨q + 1, Lib.iterAt_heap wr W.heap.size set q _ hiq, hip2, hbi2, by omega, ?_⟩
              rw [take_next' set q hlq, List.any_append, hnq]
              simp only [List.any_cons, List.any_nil, Bool.or_false, Bool.false_or]
              rw [beq_eq_false_iff_ne] at hc' ⊢
              exact fun h => hc' h.symm
            case measure =>
              simp only [World.iterPos, Lib.iterAt_heap wr W.heap.size set q _ hiq, hiq]
              omega
        · have hnx : ∀ ty, (Instr.next (.pointer (some ⟨W.heap.size, 0, none⟩)) true ty).run Tryz.prog wr = _ := fun ty => Lib.run_next_end_at wr W.heap.size set q ty hiq hlq
          go_wp2
          go_roundw
          case rel =>
            refine ⟨pos + k, hip, hbi, cov.1, ?_⟩
            rw [List.take_of_length_le (by rw [len_toList]; omega)] at hnq
            exact tk (ir hnq)
          case measure =>
            have := cov.1
            have := cov.2.1
            simp only [World.iterPos, hip, hit]
            omega
    · have hnx : ∀ ty, (Instr.next (.pointer (some ⟨w.heap.size, 0, none⟩)) true ty).run Tryz.prog wr = _ := fun ty => Lib.run_next_end_at wr w.heap.size s pos ty hit hlt
      go_wp2
      go_ret
      rw [List.take_of_length_le (by rw [len_toList]; omega)] at hno
      exact ⟨by rw [placeOf_no s _ hno]; rfl, hbw⟩
end Go.Proofs.YtnbpoplomdocjaaGreatDoor.Giv
/- Contract by hand: any text split at the empty text: its runes' bytes, one rune by one. -/
namespace Go.Proofs.YtnbpoplomdocjaaGreatDoor.Giv
open Go.RowKit Go.Proofs.YtnbpoplomdocjaaGreatDoorW.PrintWords Go.Proofs.YtnbpoplomdocjaaGreatDoorW.PrintLast Go.Proofs.YtnbpoplomdocjaaGreatDoor.Pk Go.Proofs.YtnbpoplomdocjaaGreatDoor.Ord
set_option linter.unusedVariables false
set_option linter.unusedSimpArgs false

theorem deb_infoStr : (Tryz.prog.info? 9).map (fun i => (i.zero, i.size, i.bytes)) = some (some (.string ⟨#[]⟩), 1, 16) := by kernel_rfl
/-- The bytes of a text's runes, one rune by one; behind the place pos, where a piece begins at last. -/
def pcG (s : ByteArray) : Nat → Nat → Nat → List ByteArray
  | 0, _, last => if 0 < s.size then [s.extract last s.size] else []
  | n + 1, pos, last => if pos < s.size then (if 0 < pos then s.extract last pos :: pcG s n (pos + (Utf8.decode s pos).2) pos else pcG s n (pos + (Utf8.decode s pos).2) pos) else (if 0 < s.size then [s.extract last s.size] else [])
def pcs (s : ByteArray) : List ByteArray := pcG s s.size 0 0
theorem pcG_end (s : ByteArray) (n pos last : Nat) (h : ¬ pos < s.size) : pcG s n pos last = if 0 < s.size then [s.extract last s.size] else [] := by
  cases n with
  | zero => rfl
  | succ n => rw [pcG, if_neg h]
theorem pcG_zero (s : ByteArray) (n : Nat) (h : 0 < s.size) (hn : s.size ≤ n) : ∃ m, s.size ≤ m + (Utf8.decode s 0).2 ∧ pcG s n 0 0 = pcG s m (0 + (Utf8.decode s 0).2) 0 := by
  obtain ⟨m, rfl⟩ : ∃ m, n = m + 1 := ⟨n - 1, by omega⟩
  have := (dec_cover s 0 h).2.1
  exact ⟨m, by omega, by rw [pcG, if_pos h, if_neg (by omega)]⟩
theorem pcG_next (s : ByteArray) (n pos last : Nat) (h : pos < s.size) (h0 : 0 < pos) (hn : s.size ≤ n + pos) : ∃ m, s.size ≤ m + (pos + (Utf8.decode s pos).2) ∧ pcG s n pos last = s.extract last pos :: pcG s m (pos + (Utf8.decode s pos).2) pos := by
  obtain ⟨m, rfl⟩ : ∃ m, n = m + 1 := ⟨n - 1, by omega⟩
  have := (dec_cover s pos h).2.1
  exact ⟨m, by omega, by rw [pcG, if_pos h, if_pos h0]⟩
set_option maxRecDepth 100000 in
set_option maxHeartbeats 4000000 in
theorem splitE_calls (s : ByteArray) (hz : s.size ≤ 1000000) (w : World) :
    Calls Tryz.prog 45 #[.string s, .string ⟨#[]⟩] w fun e w' => ∃ v0_ : Value, e = .returned v0_ ∧ Kd.R Kd.string 9 w' w.heap.size (fun _ => True) v0_ (pcs s) ∧ Below w.heap.size w w' := by
  go_enter Tryz.func45, Tryz.ntmps45
  go_wp2_with fail
  go_loopw [5, 6] (fun v5 v6 wr => ∃ (pos last n : Nat) (out : List ByteArray), v6 = .int .i64 (last : Int) ∧ wr.heap[w.heap.size]? = some (.stringIter s pos) ∧ Below w.heap.size w wr ∧ pos ≤ s.size ∧ Kd.R Kd.string 9 wr w.heap.size (fun k => k ≠ w.heap.size) v5 out ∧ out.length ≤ pos ∧ last ≤ pos ∧ (pos = 0 → last = 0) ∧ s.size ≤ n + pos ∧ out ++ pcG s n pos last = pcs s) (fun v5 v6 wr => s.size - wr.iterPos w.heap.size)
  case atStart => exact ⟨0, 0, s.size, [], rfl, World.iter_heap w s 0, (Below.refl _ w).alloc (Nat.le_refl _) _, Nat.zero_le _, Kd.R_nil _ _ _ _ _, Nat.le_refl _, Nat.le_refl _, fun _ => rfl, Nat.le_refl _, rfl⟩
  case round =>
    obtain ⟨pos, last, n, out, rfl, hit, hbw, hp, ho, lo, hlp, hl0, hn, hful⟩ := hrel
    have hsz : w.heap.size < wr.heap.size := (Array.getElem?_eq_some_iff.1 hit).1
    by_cases hlt : pos < s.size
    · have hnx : ∀ ty, (Instr.next (.pointer (some ⟨w.heap.size, 0, none⟩)) true ty).run Tryz.prog wr = .ok (.tuple #[.bool true, .int .i64 pos, .int .i32 ((Utf8.decode s pos).1 : Int)]) (wr.iterAt w.heap.size s (pos + (Utf8.decode s pos).2)) := fun ty => Lib.run_next_any_at (P := Tryz.prog) wr w.heap.size s pos ty hit hlt
      have cov := dec_cover s pos hlt
      have HI := Aside0.mk hit
      have hit2 := Aside0.mk (Lib.iterAt_heap wr w.heap.size s pos (pos + (Utf8.decode s pos).2) hit)
      have hbw2 := Aside0.mk (Lib.below_iterAt hbw (k := w.heap.size) (Nat.le_refl _) s (pos + (Utf8.decode s pos).2))
      have HO := Aside0.mk (show Kd.R Kd.string 9 (wr.iterAt w.heap.size s (pos + (Utf8.decode s pos).2)) w.heap.size (fun k => k ≠ w.heap.size) u5 out from Kd.R_step ho (fun k hk _ => Lib.iterAt_other wr w.heap.size k s (pos + (Utf8.decode s pos).2) hk))
      have hsz2 := Aside0.mk (show w.heap.size < (wr.iterAt w.heap.size s (pos + (Utf8.decode s pos).2)).heap.size by rw [Lib.iterAt_size]; exact hsz)
      have lim := Aside0.mk (show (out.length + 1) * 16 ≤ 140737488355328 by omega)
      have CV := Aside0.mk cov
      by_cases h0 : pos = 0
      · subst h0
        obtain rfl := hl0 rfl
        obtain rfl : out = [] := List.length_eq_zero_iff.1 (Nat.le_zero.1 lo)
        obtain ⟨m, hm, em⟩ := pcG_zero s n hlt (by omega)
        rw [em, ← Nat.zero_add (Utf8.decode s 0).2] at hful
        rw [← Nat.zero_add (Utf8.decode s 0).2] at hm
        rw [Nat.zero_add, Nat.zero_add] at hful
        have HF := Aside0.mk hful
        have HM := Aside0.mk hm
        generalize Utf8.decode s 0 = dk at *
        obtain ⟨r, k⟩ := dk
        dsimp only at *
        rw [Nat.zero_add] at *
        clear hit hbw hp ho hsz lo hful hm em cov
        go_wp2_with fail
        go_roundw
        case rel => exact ⟨k, 0, m, [], rfl, hit2.out, hbw2.out, by have := CV.out.1; omega, HO.out, Nat.zero_le _, Nat.zero_le _, fun _ => rfl, by have := HM.out; omega, HF.out⟩
        case measure =>
          have := CV.out.1
          have := CV.out.2.1
          simp only [World.iterPos, hit2.out, HI.out]
          omega
      · have f1 : (0 : Int) < (pos : Int) := by omega
        have f2 : (last : Int) ≤ (pos : Int) := by omega
        have f3 : (pos : Int) ≤ (s.size : Int) := by omega
        have f6 : last ≤ pos := by omega
        have f7 : pos ≤ s.size := hp
        obtain ⟨m, hm, em⟩ := pcG_next s n pos last hlt (by omega) hn
        have HF := Aside0.mk (show (out ++ [s.extract last pos]) ++ pcG s m (pos + (Utf8.decode s pos).2) pos = pcs s by rw [← hful, em, List.append_assoc]; rfl)
        have HM := Aside0.mk hm
        have LO := Aside0.mk lo
        generalize Utf8.decode s pos = dk at *
        obtain ⟨r, k⟩ := dk
        dsimp only at *
        obtain ⟨W, eW⟩ : ∃ W, W = wr.iterAt w.heap.size s (pos + k) := ⟨_, rfl⟩
        rw [← eW] at hit2 hbw2 HO hsz2 hnx
        clear hit hbw hp ho hsz lo eW hful hm em cov hlp hl0 hn h0
        go_wp2_with (first | ((with_reducible refine gate_builtin (b := .append) (xs := #[.tmp 19, .tmp 24]) rfl ?_); at_builtin; refine Kd.R_append Kd.string (w0 := w) w.heap.size rfl (.tmp 19) (.tmp 24) 28 9 (.string ⟨#[]⟩) 16 rfl Tryz.underlying28 deb_infoStr rfl (by decide) (by omega) u5 out (s.extract last pos) [.string (s.extract last pos)] (fun k => k ≠ w.heap.size) (fun _ => False) rfl rfl ?aP (fun _ hk => hk.elim) ?aF ?aO ?aB ?aS ?aL ?_; (case aP => exact rfl); (case aF => exact (fun k hk => Nat.ne_of_gt (Nat.lt_of_lt_of_le hsz2.out hk))); (case aO => exact HO.out); (case aB => exact hbw2.out); (case aS => exact Nat.le_of_lt hsz2.out); (case aL => exact lim.out); intro v5 w5 ho hb hg hat; have HO2 := Aside0.mk ho; have BL2 := Aside0.mk hb; have IT := Aside0.mk ((hg.block w.heap.size hsz2.out (fun e => HO.out.1 w.heap.size e.symm rfl)).trans hit2.out); clear ho hb hg hat))
        go_roundw
        case rel => exact ⟨pos + k, pos, m, _, rfl, IT.out, BL2.out, CV.out.1, HO2.out, by have := LO.out; have := CV.out.2.1; rw [List.length_append, List.length_singleton]; omega, Nat.le_add_right _ _, fun h => by have := CV.out.2.1; omega, HM.out, HF.out⟩
        case measure =>
          have := CV.out.1
          have := CV.out.2.1
          simp only [World.iterPos, IT.out, HI.out]
          omega
    · have hnx : ∀ ty, (Instr.next (.pointer (some ⟨w.heap.size, 0, none⟩)) true ty).run Tryz.prog wr = _ := fun ty => Lib.run_next_end_at wr w.heap.size s pos ty hit hlt
      have hpe : pos = s.size := by omega
      have HO := Aside0.mk ho
      have BL := Aside0.mk hbw
      have BS := Aside0.mk hbw.size
      have SZ := Aside0.mk hsz
      have lim := Aside0.mk (show (out.length + 1) * 16 ≤ 140737488355328 by omega)
      rw [pcG_end s n pos last hlt] at hful
      by_cases h0 : s.size = 0
      · have f1 : ¬ (0 : Int) < (s.size : Int) := by omega
        have Q := Aside0.mk (show out = pcs s by rw [← hful, if_neg (by omega), List.append_nil])
        clear hit hbw hp ho hsz lo h0 hpe hful hlp hl0 hn
        go_wp2_with fail
        go_ret
        exact ⟨_, rfl, by rw [← Q.out]; exact Kd.R_mono HO.out (fun _ _ => trivial), BL.out⟩
      · have f1 : (0 : Int) < (s.size : Int) := by omega
        have f2 : (last : Int) ≤ (s.size : Int) := by omega
        have f6 : last ≤ s.size := by omega
        have Q := Aside0.mk (show out ++ [s.extract last s.size] = pcs s by rw [← hful, if_pos (by omega)])
        clear hit hbw hp ho hsz lo h0 hpe hful hlp hl0 hn
        go_wp2_with (first | ((with_reducible refine gate_builtin (b := .append) (xs := #[.tmp 30, .tmp 34]) rfl ?_); at_builtin; refine Kd.R_append Kd.string (w0 := w) w.heap.size rfl (.tmp 30) (.tmp 34) 28 9 (.string ⟨#[]⟩) 16 rfl Tryz.underlying28 deb_infoStr rfl (by decide) (by omega) u5 out (s.extract last s.size) [.string (s.extract last s.size)] (fun k => k ≠ w.heap.size) (fun _ => False) rfl rfl ?aP (fun _ hk => hk.elim) ?aF ?aO ?aB ?aS ?aL ?_; (case aP => exact rfl); (case aF => exact (fun k hk => Nat.ne_of_gt (Nat.lt_of_lt_of_le SZ.out hk))); (case aO => exact HO.out); (case aB => exact BL.out); (case aS => exact BS.out); (case aL => exact lim.out); intro v5 w5 ho hb hg hat; have HO2 := Aside0.mk ho; have BL2 := Aside0.mk hb; clear ho hb hg hat))
        go_ret
        exact ⟨_, rfl, by rw [← Q.out]; exact Kd.R_mono HO2.out (fun _ _ => trivial), BL2.out⟩
end Go.Proofs.YtnbpoplomdocjaaGreatDoor.Giv
/- Contract by hand: splitDebianDigitPrefix of any text. -/
namespace Go.Proofs.YtnbpoplomdocjaaGreatDoor.Giv
open Go.RowKit Go.Proofs.YtnbpoplomdocjaaGreatDoorW.PrintWords Go.Proofs.YtnbpoplomdocjaaGreatDoorW.PrintLast Go.Proofs.YtnbpoplomdocjaaGreatDoor.Pk Go.Proofs.YtnbpoplomdocjaaGreatDoor.Ord Go.Proofs.YtnbpoplomdocjaaGreatDoor.QM
set_option linter.unusedVariables false
set_option linter.unusedSimpArgs false

theorem wd0 : ws (wd 0) = [] := by
  unfold wd
  rw [show (0 : Int).natAbs = 0 from rfl, Dg.dg_zero]
  rfl
theorem isBig0 (w : World) : IsBig (w.alloc (.cells #[.bool false, .slice none 0 0] 91)) w.heap.size 0 := by
  unfold IsBig
  rw [wd0]
  exact ⟨none, 0, blk_new _ _, Nat.le_refl _, Nat.zero_le _, Kd.C_nil _ _, fun a e => by cases e⟩
set_option maxHeartbeats 1000000 in
theorem newInt0_calls (w : World) : Calls Tryz.prog 37 #[.int .i64 0] w fun e w' => ∃ b, e = .returned (.pointer (some ⟨b, 0, none⟩)) ∧ IsBig w' b 0 ∧ Below w.heap.size w w' := by
  go_enter Tryz.func37, Tryz.ntmps37
  go_wp2_with fail
  go_ret
  exact ⟨_, rfl, isBig0 _, below_alloc (Below.refl _ _) _⟩
/-- No digit. -/
def noDig (c : UInt8) : Bool := !Rpm.dig c
def noDigI (n : Int) : Bool := decide (n < 48 ∨ 57 < n)
theorem noDigI_b (c : UInt8) : noDigI (c.toNat : Int) = noDig c := by
  unfold noDigI noDig Rpm.dig
  rw [Bool.eq_iff_iff]
  simp
  omega
theorem noDig_rune {s : ByteArray} (pos : Nat) (h : pos < s.size) : noDigI ((Utf8.decode s pos).1 : Int) = noDig (s[pos]'h) := by
  rcases dec_cases' s pos h with ⟨_, e⟩ | ⟨h1, h2, _⟩
  · rw [e]
    exact noDigI_b _
  · have e1 : noDigI ((Utf8.decode s pos).1 : Int) = true := decide_eq_true (.inr (by omega))
    have e2 : noDigI ((s[pos]'h).toNat : Int) = true := decide_eq_true (.inr (by omega))
    rw [e1, ← noDigI_b, e2]
theorem noDig_one {s : ByteArray} (pos : Nat) (h : pos < s.size) (hn : noDigI ((Utf8.decode s pos).1 : Int) = false) : (Utf8.decode s pos).2 = 1 := by
  rcases dec_cases' s pos h with ⟨_, e⟩ | ⟨h1, h2, _⟩
  · rw [e]
  · have e1 : noDigI ((Utf8.decode s pos).1 : Int) = true := decide_eq_true (.inr (by omega))
    rw [e1] at hn
    exact absurd hn (by simp)
theorem debLit_calls (n : Int) (w : World) : Calls Tryz.prog 124 #[.int .i32 n] w fun e w' => e = .returned (.bool (noDigI n)) ∧ w' = w := by
  by_cases h1 : n < (48 : Int)
  · have e : noDigI n = true := by unfold noDigI; simp [h1]
    rw [e]
    clear e
    go_enter Tryz.func124, Tryz.ntmps124
    go_wp2
    go_ret
    exact ⟨rfl, rfl⟩
  · by_cases h2 : (57 : Int) < n
    · have e : noDigI n = true := by unfold noDigI; simp [h2]
      rw [e]
      clear e
      go_enter Tryz.func124, Tryz.ntmps124
      go_wp2
      go_ret
      exact ⟨by simp [h2], rfl⟩
    · have e : noDigI n = false := by unfold noDigI; simp; omega
      rw [e]
      clear e
      go_enter Tryz.func124, Tryz.ntmps124
      go_wp2
      go_ret
      exact ⟨by simp [h2], rfl⟩
set_option maxHeartbeats 2000000 in
set_option maxRecDepth 100000 in
theorem indexFn_calls (s : ByteArray) (w : World) (hz : s.size ≤ 140737488351232) :
    Calls Tryz.prog 116 #[.string s, .func (.func 124) #[] #[], .bool true] w fun e w' => e = .returned (.int .i64 (placeOf noDig s.toList)) ∧ Below w.heap.size w w' := by
  go_enter Tryz.func116, Tryz.ntmps116
  go_wp2_with fail
  go_loopw [] (fun wr => ∃ (pos : Nat), wr.heap[w.heap.size]? = some (.stringIter s pos) ∧ Below w.heap.size w wr ∧ pos ≤ s.size ∧ (s.toList.take pos).any noDig = false) (fun wr => s.size - wr.iterPos w.heap.size)
  case atStart =>
    exact ⟨0, World.iter_heap w s 0, (Below.refl _ w).alloc (Nat.le_refl _) _, Nat.zero_le _, rfl⟩
  case round =>
    obtain ⟨pos, hit, hbw, hp, hno⟩ := hrel
    have hsz : w.heap.size < wr.heap.size := (Array.getElem?_eq_some_iff.1 hit).1
    by_cases hlt : pos < s.size
    · have hnx : ∀ ty, (Instr.next (.pointer (some ⟨w.heap.size, 0, none⟩)) true ty).run Tryz.prog wr = .ok (.tuple #[.bool true, .int .i64 pos, .int .i32 ((Utf8.decode s pos).1 : Int)]) (wr.iterAt w.heap.size s (pos + (Utf8.decode s pos).2)) := fun ty => Lib.run_next_any_at (P := Tryz.prog) wr w.heap.size s pos ty hit hlt
      have cov := dec_cover s pos hlt
      have nb := noDig_rune pos hlt
      have n1 := noDig_one pos hlt
      have HI := Aside0.mk hit
      have hit2 := Aside0.mk (Lib.iterAt_heap wr w.heap.size s pos (pos + (Utf8.decode s pos).2) hit)
      have hbw2 := Aside0.mk (Lib.below_iterAt hbw (k := w.heap.size) (Nat.le_refl _) s (pos + (Utf8.decode s pos).2))
      generalize Utf8.decode s pos = dk at *
      obtain ⟨r, k⟩ := dk
      dsimp only at *
      have CV := Aside0.mk cov
      by_cases hc : noDigI (r : Int) = true
      · have ct : ∀ w', Calls Tryz.prog 124 #[.int .i32 ((r : Nat) : Int)] w' fun e w'' => e = .returned (.bool true) ∧ w'' = w' := fun w' => (debLit_calls _ w').mono (by rintro e w2 ⟨rfl, rfl⟩; rw [hc]; exact ⟨rfl, rfl⟩)
        have P := Aside0.mk (placeOf_at s noDig pos hlt hno (nb.symm.trans hc))
        clear hit hbw hno hp hc hz cov nb n1
        go_wp2_with (first | (go_at_call 124; (with_reducible refine (ct _).mono ?_); rintro e w1 ⟨rfl, rfl⟩))
        go_ret
        exact ⟨by rw [P.out]; rfl, hbw2.out⟩
      · have hc' : noDigI (r : Int) = false := by simpa using hc
        have ct : ∀ w', Calls Tryz.prog 124 #[.int .i32 ((r : Nat) : Int)] w' fun e w'' => e = .returned (.bool false) ∧ w'' = w' := fun w' => (debLit_calls _ w').mono (by rintro e w2 ⟨rfl, rfl⟩; rw [hc']; exact ⟨rfl, rfl⟩)
        have k1 := n1 hc'
        have N := Aside0.mk (show (s.toList.take (pos + k)).any noDig = false by
          rw [k1, take_next' s pos hlt, List.any_append, hno]
          simp [nb.symm.trans hc'])
        clear hit hbw hno hp hc hc' hz cov nb n1 k1
        go_wp2_with (first | (go_at_call 124; (with_reducible refine (ct _).mono ?_); rintro e w1 ⟨rfl, rfl⟩))
        go_roundw
        case rel => exact ⟨pos + k, hit2.out, hbw2.out, CV.out.1, N.out⟩
        case measure =>
          have := CV.out.1
          have := CV.out.2.1
          simp only [World.iterPos, hit2.out, HI.out]
          omega
    · have hnx : ∀ ty, (Instr.next (.pointer (some ⟨w.heap.size, 0, none⟩)) true ty).run Tryz.prog wr = _ := fun ty => Lib.run_next_end_at wr w.heap.size s pos ty hit hlt
      rw [List.take_of_length_le (by rw [len_toList]; omega)] at hno
      have N := Aside0.mk (placeOf_no s noDig hno)
      have B := Aside0.mk hbw
      clear hit hbw hno hp hz
      go_wp2_with fail
      go_ret
      exact ⟨by rw [N.out]; rfl, B.out⟩
theorem indexFunc_calls (s : ByteArray) (w : World) (hz : s.size ≤ 140737488351232) :
    Calls Tryz.prog 123 #[.string s, .func (.func 124) #[] #[]] w fun e w' => e = .returned (.int .i64 (placeOf noDig s.toList)) ∧ Below w.heap.size w w' := by
  have c := indexFn_calls s w hz
  clear hz
  go_enter Tryz.func123, Tryz.ntmps123
  go_wp2_with (first | (go_at_call 116; (with_reducible refine c.mono ?_); rintro e w1 ⟨rfl, h1⟩))
  go_ret
  exact ⟨rfl, h1⟩
theorem place_tw (l : List UInt8) : placeOf noDig l = if (l.takeWhile Rpm.dig).length = l.length then -1 else ((l.takeWhile Rpm.dig).length : Int) := by
  have key : ∀ l : List UInt8, (l.any noDig = false ↔ (l.takeWhile Rpm.dig).length = l.length) ∧ (l.any noDig = true → l.findIdx noDig = (l.takeWhile Rpm.dig).length) := by
    intro l
    induction l with
    | nil => exact ⟨⟨fun _ => rfl, fun _ => rfl⟩, fun h => absurd h (by simp)⟩
    | cons c r ih =>
      cases hd : Rpm.dig c with
      | true =>
        have hn : noDig c = false := by unfold noDig; rw [hd]; rfl
        rw [List.any_cons, hn, Bool.false_or, List.takeWhile_cons_of_pos hd, List.findIdx_cons, hn]
        refine ⟨by rw [ih.1]; simp, fun h => ?_⟩
        simp [ih.2 h]
      | false =>
        have hn : noDig c = true := by unfold noDig; rw [hd]; rfl
        rw [List.any_cons, hn, Bool.true_or, List.takeWhile_cons_of_neg (by simp [hd]), List.findIdx_cons, hn]
        exact ⟨by simp, fun _ => by simp⟩
  unfold placeOf
  cases h : l.any noDig with
  | false => rw [if_neg (by simp), if_pos ((key l).1.1 h)]
  | true =>
    rw [if_pos rfl, (key l).2 h, if_neg (fun e => by rw [(key l).1.2 e] at h; exact absurd h (by simp))]
theorem parse_dg {l : List UInt8} (h0 : l ≠ []) (hd : l.all Rpm.dig = true) : Num.parse l = some (Num.dec l : Int) := by
  cases l with
  | nil => exact absurd rfl h0
  | cons c r =>
    have hc : Rpm.dig c = true := by rw [List.all_cons, Bool.and_eq_true] at hd; exact hd.1
    have e : Num.cutSign (c :: r) = (false, c :: r) := by
      unfold Rpm.dig at hc
      have hc := of_decide_eq_true hc
      show (if c.toNat = 45 then (true, r) else if c.toNat = 43 then (false, r) else (false, c :: r)) = _
      rw [if_neg (by omega), if_neg (by omega)]
    unfold Num.parse
    rw [e]
    have dd : Num.digits (c :: r) = true := by unfold Num.digits; rw [hd]; rfl
    rw [if_pos dd]
    rfl
set_option maxHeartbeats 4000000 in
set_option maxRecDepth 100000 in
/-- The digits that a text begins with, as a number, and what is left. -/
theorem splitDig_calls (s : ByteArray) (w : World) (hz : s.size ≤ 40000) (hL : Laid w) :
    Calls Tryz.prog 106 #[.string s] w fun e w' => ∃ b, e = .returned (.tuple #[.pointer (some ⟨b, 0, none⟩), .string (bs (s.toList.dropWhile Rpm.dig)), .nilIface]) ∧ IsBig w' b (Num.dec (s.toList.takeWhile Rpm.dig)) ∧ Below w.heap.size w w' := by
  have c := indexFunc_calls s w (by omega)
  rw [place_tw, len_toList] at c
  have tl := tw_le Rpm.dig s.toList
  rw [len_toList] at tl
  by_cases h0 : s.toList.takeWhile Rpm.dig = []
  · have hd : s.toList.dropWhile Rpm.dig = s.toList := by
      have := List.takeWhile_append_dropWhile (p := Rpm.dig) (l := s.toList)
      rw [h0, List.nil_append] at this
      exact this
    rw [hd, h0, ← bs_of]
    rw [h0] at c
    clear hd h0 tl
    by_cases he : s.size = 0
    · obtain rfl : s = ⟨#[]⟩ := eq_of_toList ((List.length_eq_zero_iff.1 (by rw [len_toList]; exact he)).trans (by rw [toList_eq']))
      rw [if_pos (show ([] : List UInt8).length = (⟨#[]⟩ : ByteArray).size from rfl)] at c
      clear he hz hL
      go_enter Tryz.func106, Tryz.ntmps106
      go_wp2_with (first | (go_at_call 123; (with_reducible refine c.mono ?_); rintro e w1 ⟨rfl, h1⟩; have H1 := Aside0.mk h1; clear h1) | (go_at_call 37; (with_reducible refine (newInt0_calls _).mono ?_); rintro e w2 ⟨b, rfl, hb, h2⟩; have HB := Aside0.mk hb; have H2 := Aside0.mk (below_then H1.out H1.out.size h2); clear hb h2))
      exact bodyPost_ret (results_list (rs := [.tmp 2, .tmp 3, .tmp 4]) rfl (by simp) (.tmp (.tmp (.tmp .nil)))) rfl ⟨b, rfl, HB.out, H2.out⟩
    · rw [if_neg (show ¬ ([] : List UInt8).length = s.size from fun e => he e.symm)] at c
      have n0 : ([] : List UInt8).length = 0 := rfl
      rw [n0] at c
      clear he hz hL n0
      go_enter Tryz.func106, Tryz.ntmps106
      go_wp2_with (first | (go_at_call 123; (with_reducible refine c.mono ?_); rintro e w1 ⟨rfl, h1⟩; have H1 := Aside0.mk h1; clear h1) | (go_at_call 37; (with_reducible refine (newInt0_calls _).mono ?_); rintro e w2 ⟨b, rfl, hb, h2⟩; have HB := Aside0.mk hb; have H2 := Aside0.mk (below_then H1.out H1.out.size h2); clear hb h2))
      exact bodyPost_ret (results_list (rs := [.tmp 2, .tmp 3, .tmp 4]) rfl (by simp) (.tmp (.tmp (.tmp .nil)))) rfl ⟨b, rfl, HB.out, H2.out⟩
  · obtain ⟨k, ek⟩ : ∃ k, k = (s.toList.takeWhile Rpm.dig).length := ⟨_, rfl⟩
    have kp : 0 < k := by rw [ek]; exact List.length_pos_iff.2 h0
    have al : (s.toList.takeWhile Rpm.dig).all Rpm.dig = true := List.all_takeWhile
    have hp := parse_dg h0 al
    have eh : s.extract 0 k = bs (s.toList.takeWhile Rpm.dig) := bs_eq (by rw [ext_head, ek, take_tw])
    have et : s.extract k s.size = bs (s.toList.dropWhile Rpm.dig) := bs_eq (by rw [ext_all, ek, drop_tw])
    have sz : (s.extract 0 k).size ≤ 40000 := by rw [eh, bs_size]; omega
    have ps : Num.parse (s.extract 0 k).toList = some (Num.dec (s.toList.takeWhile Rpm.dig) : Int) := by rw [eh, bs_toList]; exact hp
    have cv := fun (w' : World) (hb' : Below w.heap.size w w') => conv_some (s.extract 0 k) w' _ sz (hL.below hb') ps
    rw [← ek] at c tl
    generalize (Num.dec (s.toList.takeWhile Rpm.dig) : Int) = z at *
    have ET := Aside0.mk et
    have f2 : k ≤ s.size := tl
    have f1 : (k : Int) ≤ (s.size : Int) := Int.ofNat_le.2 tl
    have f3 : ((k : Int) == 0) = false := beq_eq_false_iff_ne.2 (by omega)
    have f5 : ((k : Int) == -1) = false := beq_eq_false_iff_ne.2 (by omega)
    have f4 : s.toList.isEmpty = false := by
      cases hh : s.toList with
      | nil => rw [hh] at h0; exact absurd rfl h0
      | cons c r => rfl
    have e9 : s.extract 0 s.size = s := eq_of_toList (by rw [ext_head, List.take_of_length_le (by rw [len_toList]; exact Nat.le_refl _)])
    by_cases he : k = s.size
    · rw [if_pos he] at c
      have RK := Aside0.mk he
      subst he
      rw [e9] at cv
      have EE := Aside0.mk (show bs (s.toList.dropWhile Rpm.dig) = ⟨#[]⟩ by
        rw [← et]
        exact eq_of_toList (by rw [ext_toList, List.drop_of_length_le (by rw [len_toList]; exact Nat.le_refl _), List.take_nil, toList_eq']))
      clear h0 al hp eh et sz ps hL ek tl e9
      go_enter Tryz.func106, Tryz.ntmps106
      go_wp2_with (first | (go_at_call 123; (with_reducible refine c.mono ?_); rintro e w1 ⟨rfl, h1⟩; have H1 := Aside0.mk h1; have CV := Aside0.mk (cv w1 h1); clear h1) | (go_at_call 40; (with_reducible refine CV.out.mono ?_); rintro e w2 ⟨b, rfl, hb, h2⟩; have HB := Aside0.mk hb; have H2 := Aside0.mk (below_then H1.out H1.out.size h2); clear hb h2))
      go_region
      all_goals
        go_wp2_with fail
        exact bodyPost_ret (results_list (rs := [.tmp 2, .tmp 3, .tmp 4]) rfl (by simp) (.tmp (.tmp (.tmp .nil)))) rfl ⟨b, by rw [EE.out]; rfl, HB.out.below (Below.drew (Below.refl _ _)), Below.drew H2.out⟩
    · rw [if_neg he] at c
      clear h0 al hp eh et sz ps hL ek tl e9 he
      go_enter Tryz.func106, Tryz.ntmps106
      go_wp2_with (first | (go_at_call 123; (with_reducible refine c.mono ?_); rintro e w1 ⟨rfl, h1⟩; have H1 := Aside0.mk h1; have CV := Aside0.mk (cv w1 h1); clear h1) | (go_at_call 40; (with_reducible refine CV.out.mono ?_); rintro e w2 ⟨b, rfl, hb, h2⟩; have HB := Aside0.mk hb; have H2 := Aside0.mk (below_then H1.out H1.out.size h2); clear hb h2))
      go_region
      all_goals
        go_wp2_with fail
        exact bodyPost_ret (results_list (rs := [.tmp 2, .tmp 3, .tmp 4]) rfl (by simp) (.tmp (.tmp (.tmp .nil)))) rfl ⟨b, by rw [← ET.out]; rfl, HB.out.below (Below.drew (Below.refl _ _)), Below.drew H2.out⟩
end Go.Proofs.YtnbpoplomdocjaaGreatDoor.Giv
/- Contract by hand: splitDebianNonDigitPrefix of any text. -/
namespace Go.Proofs.YtnbpoplomdocjaaGreatDoor.Giv
open Go.RowKit Go.Proofs.YtnbpoplomdocjaaGreatDoorW.PrintWords Go.Proofs.YtnbpoplomdocjaaGreatDoorW.PrintLast Go.Proofs.YtnbpoplomdocjaaGreatDoor.Pk Go.Proofs.YtnbpoplomdocjaaGreatDoor.Ord Go.Proofs.YtnbpoplomdocjaaGreatDoor.QM
set_option linter.unusedVariables false
set_option linter.unusedSimpArgs false

theorem nd_sub (l : List UInt8) : (Deb.nd l).Sublist l := List.takeWhile_sublist _
theorem nr_sub (l : List UInt8) : (Deb.nr l).Sublist l := List.dropWhile_sublist _
theorem rest_sub (l : List UInt8) : (Deb.rest l).Sublist l := (List.dropWhile_sublist _).trans (nr_sub l)
theorem inB_dig (c : UInt8) : inB ⟨#[48, 49, 50, 51, 52, 53, 54, 55, 56, 57]⟩ c = Rpm.dig c := by
  rw [Bool.eq_iff_iff, inB_iff, toList_eq']
  unfold Rpm.dig
  simp only [List.mem_cons, List.not_mem_nil, or_false, decide_eq_true_eq, ← UInt8.toNat_inj]
  simp
  omega
theorem asc_digs : asc ⟨#[48, 49, 50, 51, 52, 53, 54, 55, 56, 57]⟩ := asc_of _ (by unfold ascB; rw [toList_eq']; decide)
theorem place_nd (l : List UInt8) : placeOf Rpm.dig l = if (Deb.nd l).length = l.length then -1 else ((Deb.nd l).length : Int) := by
  have key : ∀ l : List UInt8, (l.any Rpm.dig = false ↔ (Deb.nd l).length = l.length) ∧ (l.any Rpm.dig = true → l.findIdx Rpm.dig = (Deb.nd l).length) := by
    intro l
    unfold Deb.nd
    induction l with
    | nil => exact ⟨⟨fun _ => rfl, fun _ => rfl⟩, fun h => absurd h (by simp)⟩
    | cons c r ih =>
      cases hd : Rpm.dig c with
      | false =>
        rw [List.any_cons, hd, Bool.false_or, List.takeWhile_cons_of_pos (by simp [hd]), List.findIdx_cons, hd]
        refine ⟨by rw [ih.1]; simp, fun h => ?_⟩
        simp [ih.2 h]
      | true =>
        rw [List.any_cons, hd, Bool.true_or, List.takeWhile_cons_of_neg (by simp [hd]), List.findIdx_cons, hd]
        exact ⟨by simp, fun _ => by simp⟩
  unfold placeOf
  cases h : l.any Rpm.dig with
  | false => rw [if_neg (by simp), if_pos ((key l).1.1 h)]
  | true =>
    rw [if_pos rfl, (key l).2 h, if_neg (fun e => by rw [(key l).1.2 e] at h; exact absurd h (by simp))]
set_option maxHeartbeats 4000000 in
set_option maxRecDepth 100000 in
/-- What stands ahead of digits, and what is left. -/
theorem splitNon_calls (l : List UInt8) (w : World) (h : l.length ≤ 40000) :
    Calls Tryz.prog 103 #[.string (bs l)] w fun e w' => e = .returned (.tuple #[.string (bs (Deb.nd l)), .string (bs (Deb.nr l))]) ∧ Below w.heap.size w w' := by
  have c := idxAny_calls (bs l) ⟨#[48, 49, 50, 51, 52, 53, 54, 55, 56, 57]⟩ w asc_digs (by rw [bs_size]; omega) (by decide)
  rw [show inB ⟨#[48, 49, 50, 51, 52, 53, 54, 55, 56, 57]⟩ = Rpm.dig from funext inB_dig, bs_toList, place_nd] at c
  have tl := tw_le (fun c => !Rpm.dig c) l
  have eh : (bs l).extract 0 (Deb.nd l).length = bs (Deb.nd l) := by
    rw [bs_extHead]
    exact congrArg bs (take_tw _ l)
  have et : (bs l).extract (Deb.nd l).length (bs l).size = bs (Deb.nr l) := by
    rw [bs_extAll]
    exact congrArg bs (drop_tw _ l)
  have hh : (Deb.nd l).length = 0 → Deb.nd l = [] ∧ Deb.nr l = l := fun e => by
    have e0 : Deb.nd l = [] := List.length_eq_zero_iff.1 e
    have := List.takeWhile_append_dropWhile (p := fun c => !Rpm.dig c) (l := l)
    have e1 : Deb.nd l ++ Deb.nr l = l := this
    rw [e0, List.nil_append] at e1
    exact ⟨e0, e1⟩
  have ha : (Deb.nd l).length = l.length → Deb.nd l = l ∧ Deb.nr l = [] := fun e => by
    have e1 : Deb.nd l ++ Deb.nr l = l := List.takeWhile_append_dropWhile
    have := congrArg List.length e1
    rw [List.length_append] at this
    have e2 : Deb.nr l = [] := List.length_eq_zero_iff.1 (by omega)
    rw [e2, List.append_nil] at e1
    exact ⟨e1, e2⟩
  have tl : (Deb.nd l).length ≤ l.length := tl
  obtain ⟨p, ep⟩ : ∃ p, p = Deb.nd l := ⟨_, rfl⟩
  obtain ⟨q, eq⟩ : ∃ q, q = Deb.nr l := ⟨_, rfl⟩
  rw [← ep, ← eq] at hh ha
  rw [← ep] at c eh et tl
  rw [← eq] at et
  rw [← ep, ← eq]
  clear ep eq h
  obtain ⟨s, es⟩ : ∃ s, s = bs l := ⟨_, rfl⟩
  have sl : s.toList = l := by rw [es, bs_toList]
  have sz : s.size = l.length := by rw [es, bs_size]
  rw [← es] at c eh et ⊢
  by_cases h0 : p.length = 0
  · obtain ⟨rfl, rfl⟩ := hh h0
    by_cases he : q.length = 0
    · obtain rfl : q = [] := List.length_eq_zero_iff.1 he
      rw [if_pos rfl] at c
      have f4 : s.toList.isEmpty = true := by rw [sl]; rfl
      have ES := Aside0.mk es
      clear es hh ha eh et tl h0 he sl sz
      go_enter Tryz.func103, Tryz.ntmps103
      go_wp2_with (first | (go_at_call 122; (with_reducible refine c.mono ?_); rintro e w1 ⟨rfl, h1⟩; have H1 := Aside0.mk h1; clear h1))
      exact bodyPost_ret (results_list (rs := [.tmp 2, .tmp 3]) rfl (by simp) (.tmp (.tmp .nil))) rfl ⟨by rw [ES.out]; rfl, H1.out⟩
    · rw [if_neg (fun e => he e.symm)] at c
      have ES := Aside0.mk es
      have n0 : ([] : List UInt8).length = 0 := rfl
      rw [n0] at c
      clear es hh ha eh et tl h0 he sl sz n0
      go_enter Tryz.func103, Tryz.ntmps103
      go_wp2_with (first | (go_at_call 122; (with_reducible refine c.mono ?_); rintro e w1 ⟨rfl, h1⟩; have H1 := Aside0.mk h1; clear h1))
      exact bodyPost_ret (results_list (rs := [.tmp 2, .tmp 3]) rfl (by simp) (.tmp (.tmp .nil))) rfl ⟨by rw [ES.out]; rfl, H1.out⟩
  · have f4 : s.toList.isEmpty = false := by
      rw [sl]
      cases l with
      | nil => exact absurd tl (by simpa using h0)
      | cons c r => rfl
    by_cases he : p.length = l.length
    · obtain ⟨rfl, rfl⟩ := ha he
      rw [if_pos rfl] at c
      have ES := Aside0.mk es
      clear es hh ha eh et tl h0 he sl sz
      go_enter Tryz.func103, Tryz.ntmps103
      go_wp2_with (first | (go_at_call 122; (with_reducible refine c.mono ?_); rintro e w1 ⟨rfl, h1⟩; have H1 := Aside0.mk h1; clear h1))
      go_region
      all_goals
        go_wp2_with fail
        exact bodyPost_ret (results_list (rs := [.tmp 2, .tmp 3]) rfl (by simp) (.tmp (.tmp .nil))) rfl ⟨by rw [ES.out]; rfl, Below.drew H1.out⟩
    · rw [if_neg he] at c
      obtain ⟨k, ek⟩ : ∃ k, k = p.length := ⟨_, rfl⟩
      rw [← ek] at c eh et tl h0
      have f2 : k ≤ s.size := by omega
      have f1 : (k : Int) ≤ (s.size : Int) := Int.ofNat_le.2 f2
      have f3 : ((k : Int) == 0) = false := beq_eq_false_iff_ne.2 (by omega)
      have f5 : ((k : Int) == -1) = false := beq_eq_false_iff_ne.2 (by omega)
      have EH := Aside0.mk eh
      have ET := Aside0.mk et
      clear es hh ha eh et tl h0 he sl sz ek
      go_enter Tryz.func103, Tryz.ntmps103
      go_wp2_with (first | (go_at_call 122; (with_reducible refine c.mono ?_); rintro e w1 ⟨rfl, h1⟩; have H1 := Aside0.mk h1; clear h1))
      go_region
      all_goals
        go_wp2_with fail
        exact bodyPost_ret (results_list (rs := [.tmp 2, .tmp 3]) rfl (by simp) (.tmp (.tmp .nil))) rfl ⟨by rw [← EH.out, ← ET.out]; rfl, Below.drew H1.out⟩
end Go.Proofs.YtnbpoplomdocjaaGreatDoor.Giv
/- Contract by hand: compareDebianVersions of any two texts: ONE answer, told by their bytes. -/
namespace Go.Proofs.YtnbpoplomdocjaaGreatDoor.Giv
open Go.RowKit Go.Proofs.YtnbpoplomdocjaaGreatDoorW.PrintWords Go.Proofs.YtnbpoplomdocjaaGreatDoorW.PrintLast Go.Proofs.YtnbpoplomdocjaaGreatDoor.Pk Go.Proofs.YtnbpoplomdocjaaGreatDoor.Ord Go.Proofs.YtnbpoplomdocjaaGreatDoor.QM
set_option linter.unusedVariables false
set_option linter.unusedSimpArgs false

theorem debFetch_f (l : List ByteArray) (k : Nat) (z : ByteArray) : QF.semantic_fetch.f l (k : Int) z = some (l.getD k z) := by
  unfold QF.semantic_fetch.f
  by_cases h : k < l.length
  · rw [if_neg (by omega)]
    first
      | rw [if_pos (by omega), if_pos (by omega)]
      | rw [if_pos (by omega)]
    rw [rdOf_nat _ _ k h, List.getD_eq_getElem?_getD, List.getElem?_eq_getElem h]
    rfl
  · rw [if_pos (by omega), List.getD_eq_getElem?_getD, List.getElem?_eq_none (by omega)]
    rfl
theorem weigh_any (t : ByteArray) : ∃ v, QW.semantic_weighDebianChar.f t = some v := by
  unfold QW.semantic_weighDebianChar.f
  by_cases h1 : t.toList = [126]
  · exact ⟨_, if_pos h1⟩
  · rw [if_neg h1]
    by_cases h2 : t.toList = []
    · exact ⟨_, if_pos h2⟩
    · rw [if_neg h2, if_pos (by
        have : 0 < t.size := by
          rw [← len_toList]
          exact List.length_pos_iff.2 h2
        omega)]
      repeat' split
      all_goals exact ⟨_, rfl⟩
/-- What a rune's bytes weigh. -/
def iwT (t : ByteArray) : Int := (QW.semantic_weighDebianChar.f t).getD 0
theorem iwT_f (t : ByteArray) : QW.semantic_weighDebianChar.f t = some (iwT t) := by
  obtain ⟨v, h⟩ := weigh_any t
  unfold iwT
  rw [h]
  rfl
/-- The first of n places, from i on, where two rows of weights differ. -/
def scan (f g : Nat → Int) : Nat → Nat → Int
  | 0, _ => 0
  | n + 1, i => if f i < g i then -1 else if g i < f i then 1 else scan f g n (i + 1)
def wAt (l : List ByteArray) (i : Nat) : Int := iwT (l.getD i ⟨#[]⟩)
/-- Parts without digits compared, rune by rune. -/
def pcC (p q : List UInt8) : Int := scan (wAt (pcs (bs p))) (wAt (pcs (bs q))) (max p.length q.length) 0
def dcH (x y : List UInt8) : Int := if Deb.nd x = Deb.nd y then 0 else pcC (Deb.nd x) (Deb.nd y)
/-- Two upstream versions, or revisions, compared as the program does. -/
def dcN : Nat → List UInt8 → List UInt8 → Int
  | 0, _, _ => 0
  | n + 1, x, y => if x = [] ∧ y = [] then 0 else if dcH x y = 0 then (if cI (Num.dec (Deb.dg x)) (Num.dec (Deb.dg y)) = 0 then dcN n (Deb.rest x) (Deb.rest y) else cI (Num.dec (Deb.dg x)) (Num.dec (Deb.dg y))) else dcH x y
def dcA (x y : List UInt8) : Int := dcN (x.length + y.length) x y
theorem dcN_end (n : Nat) : dcN n [] [] = 0 := by
  cases n with
  | zero => rfl
  | succ n => rw [dcN, if_pos ⟨rfl, rfl⟩]
theorem rest_le (l : List UInt8) : (Deb.rest l).length ≤ l.length := (rest_sub l).length_le
theorem rest_less {x y : List UInt8} (h : ¬ (x = [] ∧ y = [])) : (Deb.rest x).length + (Deb.rest y).length < x.length + y.length := by
  have h1 := rest_le x
  have h2 := rest_le y
  by_cases hx : x = []
  · have := Deb.rest_lt (l := y) (fun e => h ⟨hx, e⟩)
    omega
  · have := Deb.rest_lt hx
    omega
/-- One stretch of each, then what is left. -/
theorem dcN_step {n : Nat} {x y : List UInt8} (hn : x.length + y.length ≤ n) (h : ¬ (x = [] ∧ y = [])) : ∃ m, (Deb.rest x).length + (Deb.rest y).length ≤ m ∧ dcN n x y = if dcH x y = 0 then (if cI (Num.dec (Deb.dg x)) (Num.dec (Deb.dg y)) = 0 then dcN m (Deb.rest x) (Deb.rest y) else cI (Num.dec (Deb.dg x)) (Num.dec (Deb.dg y))) else dcH x y := by
  have l := rest_less h
  obtain ⟨m, rfl⟩ : ∃ m, n = m + 1 := ⟨n - 1, by omega⟩
  exact ⟨m, by omega, by rw [dcN, if_neg h]⟩
/-- Split at nothing: the row of the runes' bytes. -/
theorem splitE_row (l : List UInt8) (h : l.length ≤ 40000) (w : World) :
    Calls Tryz.prog 45 #[.string (bs l), .string ⟨#[]⟩] w fun e w' => ∃ (A : Option Addr) (c : Nat), e = .returned (.slice A (pcs (bs l)).length c) ∧ Kd.C Kd.string w' A (pcs (bs l)).length (pcs (bs l)) ∧ (pcs (bs l)).length ≤ c ∧ Below w.heap.size w w' := by
  refine (splitE_calls (bs l) (by rw [bs_size]; omega) w).mono ?_
  rintro e w' ⟨v, rfl, ho, d⟩
  obtain ⟨A, c, rfl, h1, h2⟩ := Kd.R_reads ho
  exact ⟨A, c, rfl, h2, h1, d⟩
def szOf : Value → Nat
  | .string s => s.size
  | _ => 0
theorem len_sub {l m : List UInt8} (h : l.length ≤ 40000) (hs : m.Sublist l) : m.length ≤ 40000 := Nat.le_trans hs.length_le h
/-- The digits of what is left behind a part without digits. -/
theorem splitDg_calls (l : List UInt8) (w : World) (h : l.length ≤ 40000) (hL : Laid w) :
    Calls Tryz.prog 106 #[.string (bs (Deb.nr l))] w fun e w' => ∃ b, e = .returned (.tuple #[.pointer (some ⟨b, 0, none⟩), .string (bs (Deb.rest l)), .nilIface]) ∧ IsBig w' b (Num.dec (Deb.dg l)) ∧ Below w.heap.size w w' := by
  have := splitDig_calls (bs (Deb.nr l)) w (by rw [bs_size]; exact len_sub h (nr_sub l)) hL
  rwa [bs_toList] at this
set_option maxHeartbeats 8000000 in
set_option maxRecDepth 100000 in
theorem debComp_calls (a b : List UInt8) (w : World) (ha : a.length ≤ 40000) (hb : b.length ≤ 40000) (hL : Laid w) :
    Calls Tryz.prog 79 #[.string (bs a), .string (bs b)] w fun e w' => e = .returned (.tuple #[.int .i64 (dcA a b), .nilIface]) ∧ Below w.heap.size w w' := by
  have HL := Aside0.mk hL
  obtain ⟨D, eD⟩ : ∃ D, D = dcA a b := ⟨_, rfl⟩
  rw [← eD]
  clear hL
  go_enter Tryz.func79, Tryz.ntmps79
  go_wp2_with fail
  go_loopw [0, 1] (fun v0 v1 wr => ∃ (x y : List UInt8) (k : Nat), v0 = .string (bs x) ∧ v1 = .string (bs y) ∧ x.length ≤ 40000 ∧ y.length ≤ 40000 ∧ x.length + y.length ≤ k ∧ dcN k x y = D ∧ Below w.heap.size w wr) (fun v0 v1 wr => szOf v0 + szOf v1)
  case atStart => exact ⟨a, b, _, rfl, rfl, ha, hb, Nat.le_refl _, eD.symm, Below.refl _ _⟩
  case round =>
    obtain ⟨x, y, k, rfl, rfl, hx, hy, hk, hD, hbw⟩ := hrel
    clear ha hb eD
    have BL := Aside0.mk hbw
    have BS := Aside0.mk hbw.size
    clear hbw
    by_cases hemp : x = [] ∧ y = []
    · obtain ⟨rfl, rfl⟩ := hemp
      have f1 : (bs []).toList.isEmpty = true := by rw [bs_toList]; rfl
      rw [dcN_end] at hD
      have HD := Aside0.mk hD
      clear hD hx hy hk
      go_wp2_with fail
      exact bodyPost_ret (results_list (rs := [.tmp 4, .tmp 5]) rfl (by simp) (.tmp (.tmp .nil))) rfl ⟨by rw [← HD.out]; rfl, BL.out⟩
    · have sA := fun w' => splitNon_calls x w' hx
      have sB := fun w' => splitNon_calls y w' hy
      have hpq : (bs x).toList.isEmpty = false ∨ (bs x).toList.isEmpty = true ∧ (bs y).toList.isEmpty = false := by
        rw [bs_toList, bs_toList]
        cases x with
        | cons c r => exact .inl rfl
        | nil =>
          cases y with
          | nil => exact absurd ⟨rfl, rfl⟩ hemp
          | cons c r => exact .inr ⟨rfl, rfl⟩
      have RL := Aside0.mk (rest_less hemp)
      obtain ⟨m, hm, em⟩ := dcN_step hk hemp
      rw [em] at hD
      have HM := Aside0.mk hm
      clear hemp hm em hk
      have dA := fun (w' : World) (hb' : Below w.heap.size w w') => splitDg_calls x w' hx (HL.out.below hb')
      have dB := fun (w' : World) (hb' : Below w.heap.size w w') => splitDg_calls y w' hy (HL.out.below hb')
      have HX := Aside0.mk (len_sub hx (rest_sub x))
      have HY := Aside0.mk (len_sub hy (rest_sub y))
      have cm := fun b1 b2 w' (h1 : IsBig w' b1 (Num.dec (Deb.dg x))) (h2 : IsBig w' b2 (Num.dec (Deb.dg y))) => Cmp_calls _ _ b1 b2 w' h1 h2
      by_cases hp : Deb.nd x = Deb.nd y
      · have HD0 := Aside0.mk (show (if cI (Num.dec (Deb.dg x)) (Num.dec (Deb.dg y)) = 0 then dcN m (Deb.rest x) (Deb.rest y) else cI (Num.dec (Deb.dg x)) (Num.dec (Deb.dg y))) = D by rw [← hD, if_pos (show dcH x y = 0 by unfold dcH; rw [if_pos hp])])
        rw [hp] at sA
        clear hD hx hy hp
        by_cases hz : cI (Num.dec (Deb.dg x)) (Num.dec (Deb.dg y)) = 0
        · have HD := Aside0.mk (show dcN m (Deb.rest x) (Deb.rest y) = D by rw [← HD0.out, if_pos hz])
          rw [hz] at cm
          clear hz HD0
          rcases hpq with f8 | ⟨f8, f9⟩
          all_goals
            go_wp2_with (first | (go_at_call 103; (with_reducible refine (sA _).mono ?_); rintro e w1 ⟨rfl, d1⟩; have BL1 := Aside0.mk (below_then BL.out BS.out d1); have BS1 := Aside0.mk (Nat.le_trans BS.out d1.size); clear d1 sA) | (go_at_call 103; (with_reducible refine (sB _).mono ?_); rintro e w2 ⟨rfl, d2⟩; have BL2 := Aside0.mk (below_then BL1.out BS1.out d2); have BS2 := Aside0.mk (Nat.le_trans BS1.out d2.size); clear d2 sB) | (go_at_call 106; (with_reducible refine (dA _ BL2.out).mono ?_); rintro e w13 ⟨b3, rfl, q3, d3⟩; have BX3 := Aside0.mk (below_then BL2.out BS2.out d3); have BY3 := Aside0.mk (Nat.le_trans BS2.out d3.size); have Q3 := Aside0.mk q3; clear d3 q3 dA) | (go_at_call 106; (with_reducible refine (dB _ BX3.out).mono ?_); rintro e w14 ⟨b4, rfl, q4, d4⟩; have BX4 := Aside0.mk (below_then BX3.out BY3.out d4); have BY4 := Aside0.mk (Nat.le_trans BY3.out d4.size); have Q5 := Aside0.mk (Q3.out.below d4); have Q4 := Aside0.mk q4; clear d4 q4 dB) | (go_at_call 78; (with_reducible refine (cm _ _ _ Q5.out Q4.out).mono ?_); rintro e w15 ⟨rfl, d5⟩; have BX5 := Aside0.mk (below_then BX4.out BY4.out d5.below); clear d5))
            go_roundw
            case rel => exact ⟨_, _, m, rfl, rfl, HX.out, HY.out, HM.out, HD.out, BX5.out⟩
            case measure =>
              have := RL.out
              simp only [szOf, bs_size]
              omega
        · have HD := Aside0.mk (show cI (Num.dec (Deb.dg x)) (Num.dec (Deb.dg y)) = D by rw [← HD0.out, if_neg hz])
          have nz : (cI (Num.dec (Deb.dg x)) (Num.dec (Deb.dg y)) != 0) = true := bne_iff_ne.2 hz
          clear hz HD0
          rcases hpq with f8 | ⟨f8, f9⟩
          all_goals
            go_wp2_with (first | (go_at_call 103; (with_reducible refine (sA _).mono ?_); rintro e w1 ⟨rfl, d1⟩; have BL1 := Aside0.mk (below_then BL.out BS.out d1); have BS1 := Aside0.mk (Nat.le_trans BS.out d1.size); clear d1 sA) | (go_at_call 103; (with_reducible refine (sB _).mono ?_); rintro e w2 ⟨rfl, d2⟩; have BL2 := Aside0.mk (below_then BL1.out BS1.out d2); have BS2 := Aside0.mk (Nat.le_trans BS1.out d2.size); clear d2 sB) | (go_at_call 106; (with_reducible refine (dA _ BL2.out).mono ?_); rintro e w13 ⟨b3, rfl, q3, d3⟩; have BX3 := Aside0.mk (below_then BL2.out BS2.out d3); have BY3 := Aside0.mk (Nat.le_trans BS2.out d3.size); have Q3 := Aside0.mk q3; clear d3 q3 dA) | (go_at_call 106; (with_reducible refine (dB _ BX3.out).mono ?_); rintro e w14 ⟨b4, rfl, q4, d4⟩; have BX4 := Aside0.mk (below_then BX3.out BY3.out d4); have BY4 := Aside0.mk (Nat.le_trans BY3.out d4.size); have Q5 := Aside0.mk (Q3.out.below d4); have Q4 := Aside0.mk q4; clear d4 q4 dB) | (go_at_call 78; (with_reducible refine (cm _ _ _ Q5.out Q4.out).mono ?_); rintro e w15 ⟨rfl, d5⟩; have BX5 := Aside0.mk (below_then BX4.out BY4.out d5.below); clear d5))
            exact bodyPost_ret (results_list (rs := [.tmp 4, .tmp 5]) rfl (by simp) (.tmp (.tmp .nil))) rfl ⟨by rw [← HD.out]; rfl, BX5.out⟩
      · have DH : dcH x y = pcC (Deb.nd x) (Deb.nd y) := by unfold dcH; rw [if_neg hp]
        rw [DH] at hD
        have hkx := len_sub hx (nd_sub x)
        have hky := len_sub hy (nd_sub y)
        obtain ⟨p, ep⟩ : ∃ p, p = Deb.nd x := ⟨_, rfl⟩
        obtain ⟨q, eq⟩ : ∃ q, q = Deb.nd y := ⟨_, rfl⟩
        rw [← ep, ← eq] at hp hD
        rw [← ep] at sA hkx
        rw [← eq] at sB hky
        have zA := fun w' => splitE_row p hkx w'
        have zB := fun w' => splitE_row q hky w'
        have HD := Aside0.mk hD
        unfold pcC at HD
        obtain ⟨la, ea⟩ : ∃ la, la = pcs (bs p) := ⟨_, rfl⟩
        obtain ⟨lb, eb⟩ : ∃ lb, lb = pcs (bs q) := ⟨_, rfl⟩
        rw [← ea] at zA HD
        rw [← eb] at zB HD
        clear ea eb ep eq hx hy hD DH
        obtain ⟨n, en⟩ : ∃ n, n = max p.length q.length := ⟨_, rfl⟩
        have hmx : (bs q).size = n ∧ (bs p).size < n ∨ (bs p).size = n ∧ ¬ n < (bs q).size := by rw [bs_size, bs_size]; omega
        have hn : n ≤ 40000 := by omega
        have ne : ((bs p).toList == (bs q).toList) = false := by rw [bs_toList, bs_toList]; exact beq_eq_false_iff_ne.2 hp
        rw [← en] at HD
        clear en hp hkx hky
        rcases hpq with f8 | ⟨f8, f9⟩ <;> rcases hmx with ⟨hs, hs2⟩ | ⟨hs, hs2⟩
        all_goals
          go_wp2_with (first | (go_at_call 103; (with_reducible refine (sA _).mono ?_); rintro e w1 ⟨rfl, d1⟩; have BL1 := Aside0.mk (below_then BL.out BS.out d1); have BS1 := Aside0.mk (Nat.le_trans BS.out d1.size); clear d1 sA) | (go_at_call 103; (with_reducible refine (sB _).mono ?_); rintro e w2 ⟨rfl, d2⟩; have BL2 := Aside0.mk (below_then BL1.out BS1.out d2); have BS2 := Aside0.mk (Nat.le_trans BS1.out d2.size); clear d2 sB) | (go_at_call 45; (with_reducible refine (zA _).mono ?_); rintro e w3 ⟨A3, c3, rfl, r3, l3, d3⟩; have BL3 := Aside0.mk (below_then BL2.out BS2.out d3); have BS3 := Aside0.mk (Nat.le_trans BS2.out d3.size); have R3 := Aside0.mk r3; have L3 := Aside0.mk l3; clear d3 r3 l3 zA) | (go_at_call 45; (with_reducible refine (zB _).mono ?_); rintro e w4 ⟨A4, c4, rfl, r4, l4, d4⟩; have BL4 := Aside0.mk (below_then BL3.out BS3.out d4); have BS4 := Aside0.mk (Nat.le_trans BS3.out d4.size); have R5 := Aside0.mk (Kd.C_below R3.out d4); have R4 := Aside0.mk r4; have L4 := Aside0.mk l4; clear d4 r4 l4 zB))
          obtain ⟨wo, rfl⟩ : ∃ wo : World, wo = wr := ⟨_, rfl⟩
          go_loopw [45] (fun v45 wi => ∃ i : Nat, v45 = .int .i64 i ∧ i ≤ n ∧ scan (wAt la) (wAt lb) n 0 = scan (wAt la) (wAt lb) (n - i) i ∧ Below w.heap.size w wi ∧ Below w4.heap.size w4 wi) (fun v45 wi => n - (intOf v45).toNat)
          case atStart => exact ⟨0, rfl, Nat.zero_le _, rfl, BL4.out, Below.refl _ _⟩
          case round =>
            obtain ⟨i, rfl, hi, hsc, hbi, hb4⟩ := hrel
            have BI := Aside0.mk hbi
            have BJ := Aside0.mk hbi.size
            have B4 := Aside0.mk hb4
            clear hbi hb4
            by_cases hlt : i < n
            · have fa := fun (w' : World) (hb' : Below w4.heap.size w4 w') => QF.semantic_fetch.calls A3 c3 la (i : Int) ⟨#[]⟩ (la.getD i ⟨#[]⟩) w' (Kd.C_below R5.out hb') L3.out (by rw [debFetch_f])
              have fb := fun (w' : World) (hb' : Below w4.heap.size w4 w') => QF.semantic_fetch.calls A4 c4 lb (i : Int) ⟨#[]⟩ (lb.getD i ⟨#[]⟩) w' (Kd.C_below R4.out hb') L4.out (by rw [debFetch_f])
              have wa := fun w' => QW.semantic_weighDebianChar.calls (la.getD i ⟨#[]⟩) _ w' (iwT_f _)
              have wb := fun w' => QW.semantic_weighDebianChar.calls (lb.getD i ⟨#[]⟩) _ w' (iwT_f _)
              have st : scan (wAt la) (wAt lb) (n - i) i = if wAt la i < wAt lb i then -1 else if wAt lb i < wAt la i then 1 else scan (wAt la) (wAt lb) (n - (i + 1)) (i + 1) := by
                rw [show n - i = (n - (i + 1)) + 1 by omega, scan]
              rw [st] at hsc
              unfold wAt at hsc
              have HC := Aside0.mk hsc
              obtain ⟨ta, eta⟩ : ∃ ta, ta = la.getD i ⟨#[]⟩ := ⟨_, rfl⟩
              obtain ⟨tb, etb⟩ : ∃ tb, tb = lb.getD i ⟨#[]⟩ := ⟨_, rfl⟩
              rw [← eta] at fa wa HC
              rw [← etb] at fb wb HC
              obtain ⟨u, eu⟩ : ∃ u, u = iwT ta := ⟨_, rfl⟩
              obtain ⟨v, ev⟩ : ∃ v, v = iwT tb := ⟨_, rfl⟩
              rw [← eu] at wa HC
              rw [← ev] at wb HC
              have wk : wrap64 ((i : Int) + 1) = ((i + 1 : Nat) : Int) := Pk.wr i (by omega)
              have g4 : (i : Int) < (n : Int) := Int.ofNat_lt.2 hlt
              clear eta etb eu ev hsc st hi
              rcases Int.lt_trichotomy u v with hc | hc | hc
              · have ST := Aside0.mk (show D = -1 by rw [← HD.out]; unfold wAt; rw [HC.out, if_pos hc, if_neg (by decide)])
                go_wp2_with (first | (go_at_call 105; (with_reducible refine (fa _ B4.out).mono ?_); rintro e w5 ⟨rfl, d5⟩; have BI1 := Aside0.mk (below_then BI.out BJ.out d5.below); have BJ1 := Aside0.mk (Nat.le_trans BJ.out d5.below.size); have B5 := Aside0.mk (below_then B4.out B4.out.size d5.below); clear d5 fa) | (go_at_call 104; (with_reducible refine (wa _).mono ?_); rintro e w6 ⟨rfl, d6⟩; have BI2 := Aside0.mk (below_then BI1.out BJ1.out d6.below); have BJ2 := Aside0.mk (Nat.le_trans BJ1.out d6.below.size); have B6 := Aside0.mk (below_then B5.out B5.out.size d6.below); clear d6 wa) | (go_at_call 105; (with_reducible refine (fb _ B6.out).mono ?_); rintro e w7 ⟨rfl, d7⟩; have BI3 := Aside0.mk (below_then BI2.out BJ2.out d7.below); have BJ3 := Aside0.mk (Nat.le_trans BJ2.out d7.below.size); have B7 := Aside0.mk (below_then B6.out B6.out.size d7.below); clear d7 fb) | (go_at_call 104; (with_reducible refine (wb _).mono ?_); rintro e w8 ⟨rfl, d8⟩; have BI4 := Aside0.mk (below_then BI3.out BJ3.out d8.below); have B8 := Aside0.mk (below_then B7.out B7.out.size d8.below); clear d8 wb))
                exact bodyPost_ret (results_list (rs := [.tmp 4, .tmp 5]) rfl (by simp) (.tmp (.tmp .nil))) rfl ⟨by rw [ST.out]; rfl, BI4.out⟩
              · subst hc
                have hc2 : ¬ u < u := Int.lt_irrefl u
                have NX := Aside0.mk (show scan (wAt la) (wAt lb) n 0 = scan (wAt la) (wAt lb) (n - (i + 1)) (i + 1) by
                  have := HC.out
                  rw [if_neg hc2, if_neg hc2] at this
                  exact this)
                have kn : i + 1 ≤ n := hlt
                go_wp2_with (first | (go_at_call 105; (with_reducible refine (fa _ B4.out).mono ?_); rintro e w5 ⟨rfl, d5⟩; have BI1 := Aside0.mk (below_then BI.out BJ.out d5.below); have BJ1 := Aside0.mk (Nat.le_trans BJ.out d5.below.size); have B5 := Aside0.mk (below_then B4.out B4.out.size d5.below); clear d5 fa) | (go_at_call 104; (with_reducible refine (wa _).mono ?_); rintro e w6 ⟨rfl, d6⟩; have BI2 := Aside0.mk (below_then BI1.out BJ1.out d6.below); have BJ2 := Aside0.mk (Nat.le_trans BJ1.out d6.below.size); have B6 := Aside0.mk (below_then B5.out B5.out.size d6.below); clear d6 wa) | (go_at_call 105; (with_reducible refine (fb _ B6.out).mono ?_); rintro e w7 ⟨rfl, d7⟩; have BI3 := Aside0.mk (below_then BI2.out BJ2.out d7.below); have BJ3 := Aside0.mk (Nat.le_trans BJ2.out d7.below.size); have B7 := Aside0.mk (below_then B6.out B6.out.size d7.below); clear d7 fb) | (go_at_call 104; (with_reducible refine (wb _).mono ?_); rintro e w8 ⟨rfl, d8⟩; have BI4 := Aside0.mk (below_then BI3.out BJ3.out d8.below); have B8 := Aside0.mk (below_then B7.out B7.out.size d8.below); clear d8 wb))
                go_roundw
                case rel => exact ⟨i + 1, rfl, kn, NX.out, BI4.out, B8.out⟩
                case measure =>
                  simp only [intOf]
                  omega
              · have hc2 : ¬ u < v := by omega
                have ST := Aside0.mk (show D = 1 by rw [← HD.out]; unfold wAt; rw [HC.out, if_neg hc2, if_pos hc, if_neg (by decide)])
                go_wp2_with (first | (go_at_call 105; (with_reducible refine (fa _ B4.out).mono ?_); rintro e w5 ⟨rfl, d5⟩; have BI1 := Aside0.mk (below_then BI.out BJ.out d5.below); have BJ1 := Aside0.mk (Nat.le_trans BJ.out d5.below.size); have B5 := Aside0.mk (below_then B4.out B4.out.size d5.below); clear d5 fa) | (go_at_call 104; (with_reducible refine (wa _).mono ?_); rintro e w6 ⟨rfl, d6⟩; have BI2 := Aside0.mk (below_then BI1.out BJ1.out d6.below); have BJ2 := Aside0.mk (Nat.le_trans BJ1.out d6.below.size); have B6 := Aside0.mk (below_then B5.out B5.out.size d6.below); clear d6 wa) | (go_at_call 105; (with_reducible refine (fb _ B6.out).mono ?_); rintro e w7 ⟨rfl, d7⟩; have BI3 := Aside0.mk (below_then BI2.out BJ2.out d7.below); have BJ3 := Aside0.mk (Nat.le_trans BJ2.out d7.below.size); have B7 := Aside0.mk (below_then B6.out B6.out.size d7.below); clear d7 fb) | (go_at_call 104; (with_reducible refine (wb _).mono ?_); rintro e w8 ⟨rfl, d8⟩; have BI4 := Aside0.mk (below_then BI3.out BJ3.out d8.below); have B8 := Aside0.mk (below_then B7.out B7.out.size d8.below); clear d8 wb))
                exact bodyPost_ret (results_list (rs := [.tmp 4, .tmp 5]) rfl (by simp) (.tmp (.tmp .nil))) rfl ⟨by rw [ST.out]; rfl, BI4.out⟩
            · obtain rfl : i = n := by omega
              rw [Nat.sub_self] at hsc
              have HD0 := Aside0.mk (show (if cI (Num.dec (Deb.dg x)) (Num.dec (Deb.dg y)) = 0 then dcN m (Deb.rest x) (Deb.rest y) else cI (Num.dec (Deb.dg x)) (Num.dec (Deb.dg y))) = D by rw [← HD.out, if_pos (show scan (wAt la) (wAt lb) i 0 = 0 by rw [hsc]; rfl)])
              have g4 : ¬ (i : Int) < (i : Int) := Int.lt_irrefl _
              clear hsc HD hlt hi
              by_cases hz : cI (Num.dec (Deb.dg x)) (Num.dec (Deb.dg y)) = 0
              · have HD := Aside0.mk (show dcN m (Deb.rest x) (Deb.rest y) = D by rw [← HD0.out, if_pos hz])
                rw [hz] at cm
                clear hz HD0
                skip
                all_goals
                  go_wp2_with (first | (go_at_call 106; (with_reducible refine (dA _ BI.out).mono ?_); rintro e w13 ⟨b3, rfl, q3, d3⟩; have BX3 := Aside0.mk (below_then BI.out BJ.out d3); have BY3 := Aside0.mk (Nat.le_trans BJ.out d3.size); have Q3 := Aside0.mk q3; clear d3 q3 dA) | (go_at_call 106; (with_reducible refine (dB _ BX3.out).mono ?_); rintro e w14 ⟨b4, rfl, q4, d4⟩; have BX4 := Aside0.mk (below_then BX3.out BY3.out d4); have BY4 := Aside0.mk (Nat.le_trans BY3.out d4.size); have Q5 := Aside0.mk (Q3.out.below d4); have Q4 := Aside0.mk q4; clear d4 q4 dB) | (go_at_call 78; (with_reducible refine (cm _ _ _ Q5.out Q4.out).mono ?_); rintro e w15 ⟨rfl, d5⟩; have BX5 := Aside0.mk (below_then BX4.out BY4.out d5.below); clear d5))
                  go_roundw
                  case rel => exact ⟨_, _, m, rfl, rfl, HX.out, HY.out, HM.out, HD.out, BX5.out⟩
                  case measure =>
                    have := RL.out
                    simp only [szOf, bs_size]
                    omega
              · have HD := Aside0.mk (show cI (Num.dec (Deb.dg x)) (Num.dec (Deb.dg y)) = D by rw [← HD0.out, if_neg hz])
                have nz : (cI (Num.dec (Deb.dg x)) (Num.dec (Deb.dg y)) != 0) = true := bne_iff_ne.2 hz
                clear hz HD0
                skip
                all_goals
                  go_wp2_with (first | (go_at_call 106; (with_reducible refine (dA _ BI.out).mono ?_); rintro e w13 ⟨b3, rfl, q3, d3⟩; have BX3 := Aside0.mk (below_then BI.out BJ.out d3); have BY3 := Aside0.mk (Nat.le_trans BJ.out d3.size); have Q3 := Aside0.mk q3; clear d3 q3 dA) | (go_at_call 106; (with_reducible refine (dB _ BX3.out).mono ?_); rintro e w14 ⟨b4, rfl, q4, d4⟩; have BX4 := Aside0.mk (below_then BX3.out BY3.out d4); have BY4 := Aside0.mk (Nat.le_trans BY3.out d4.size); have Q5 := Aside0.mk (Q3.out.below d4); have Q4 := Aside0.mk q4; clear d4 q4 dB) | (go_at_call 78; (with_reducible refine (cm _ _ _ Q5.out Q4.out).mono ?_); rintro e w15 ⟨rfl, d5⟩; have BX5 := Aside0.mk (below_then BX4.out BY4.out d5.below); clear d5))
                  exact bodyPost_ret (results_list (rs := [.tmp 4, .tmp 5]) rfl (by simp) (.tmp (.tmp .nil))) rfl ⟨by rw [← HD.out]; rfl, BX5.out⟩
end Go.Proofs.YtnbpoplomdocjaaGreatDoor.Giv
