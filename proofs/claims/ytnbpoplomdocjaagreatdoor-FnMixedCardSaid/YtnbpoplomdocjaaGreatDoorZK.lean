/- Texts cut at a byte; what stands behind a version's numbers compared. Plain Lean, no program.
   Contracts by hand: strings.Builder, with frames that name what stays: everything but the builder's own block and its own row.
   Runes: digits.
   Runes: digits, letters; builders beside an iterator.
   Points put between digits and other characters. Plain Lean over runes, no program.
   Contract by hand: (*strings.Builder).WriteString.
   Contract by hand: canonicalizeRubyGemVersion: points put between digits and other characters.
   Contract by hand: a text cut at points (the function is handed in).
   Contract by hand: segments cut ahead of the first one that is no number.
   What the contracts over the interface Version have in common.
   Zeros at the end of lists of segments. Plain Lean, no program. -/
import Derived.Test.YtnbpoplomdocjaaGreatDoorZA
import Derived.Test.YtnbpoplomdocjaaGreatDoorShelf
import Derived.WalkKit
import Derived.BigCall
import Derived.Lib.OthersKept
import Derived.Lib.FrozenHead2
import Derived.Lib.UnsafeStr
import Derived.Lib.Builder
import Derived.Laws.Externs
import Derived.Lib.Hide
import Derived.Test.YtnbpoplomdocjaaGreatDoorZD
import Derived.Lib.RuneBytes
import Derived.Lib.FrozenHead
import Derived.Lib.AppendStr
import Derived.Outline
import Derived.Test.YtnbpoplomdocjaaGreatDoorZE
import Derived.Test.YtnbpoplomdocjaaGreatDoorWMore
import Derived.Deep.QuietTactic
import Derived.BigQuiet
namespace Go.Proofs.YtnbpoplomdocjaaGreatDoor.Cut
set_option linter.unusedVariables false
open Go.Proofs.YtnbpoplomdocjaaGreatDoor.Ord Go.Proofs.YtnbpoplomdocjaaGreatDoor.Rpm

/-- A text cut at each c. -/
def cutAt (c : UInt8) : List UInt8 → List (List UInt8)
  | [] => [[]]
  | x :: r => if x = c then [] :: cutAt c r else (match cutAt c r with | h :: t => (x :: h) :: t | [] => [[x]])
theorem cutAt_ne (c : UInt8) (l : List UInt8) : cutAt c l ≠ [] := by
  cases l with
  | nil => simp [cutAt]
  | cons x r =>
    unfold cutAt
    split
    · simp
    · split <;> simp
/-- Up to the first c, and behind it. -/
def upTo (c : UInt8) (l : List UInt8) : List UInt8 := l.takeWhile (fun x => !(x == c))
theorem cutAt_no (c : UInt8) : ∀ l : List UInt8, (l.any (fun x => x == c)) = false → cutAt c l = [l] ∧ upTo c l = l
  | [], _ => ⟨rfl, rfl⟩
  | x :: r, h => by
    rw [List.any_cons, Bool.or_eq_false_iff] at h
    obtain ⟨e1, e2⟩ := cutAt_no c r h.2
    have hx : ¬ x = c := by simpa using h.1
    refine ⟨?_, ?_⟩
    · unfold cutAt
      rw [if_neg hx, e1]
    · unfold upTo at e2 ⊢
      rw [List.takeWhile_cons_of_pos (by simp [hx]), e2]
theorem cutAt_yes (c : UInt8) : ∀ l : List UInt8, (l.any (fun x => x == c)) = true → cutAt c l = upTo c l :: cutAt c (l.drop ((upTo c l).length + 1)) ∧ (upTo c l).length < l.length ∧ (l.take (upTo c l).length) = upTo c l
  | [], h => by simp at h
  | x :: r, h => by
    by_cases hx : x = c
    · have e : upTo c (x :: r) = [] := by
        unfold upTo
        rw [List.takeWhile_cons_of_neg (by simp [hx])]
      rw [e]
      refine ⟨?_, by simp, rfl⟩
      conv => lhs; unfold cutAt
      rw [if_pos hx]
      rfl
    · rw [List.any_cons] at h
      have hr : (r.any fun x => x == c) = true := by simpa [hx] using h
      obtain ⟨e1, e2, e3⟩ := cutAt_yes c r hr
      have e : upTo c (x :: r) = x :: upTo c r := by
        unfold upTo
        rw [List.takeWhile_cons_of_pos (by simp [hx])]
      rw [e]
      refine ⟨?_, by simpa using e2, by rw [List.length_cons, List.take_succ_cons, e3]⟩
      conv => lhs; unfold cutAt
      rw [if_neg hx, e1]
      rfl
theorem cutAt_sizes (c : UInt8) : ∀ l : List UInt8, (cutAt c l).length ≤ l.length + 1 ∧ ∀ x ∈ cutAt c l, x.length ≤ l.length
  | [] => ⟨by simp [cutAt], by simp [cutAt]⟩
  | x :: r => by
    obtain ⟨h1, h2⟩ := cutAt_sizes c r
    unfold cutAt
    by_cases hx : x = c
    · rw [if_pos hx]
      refine ⟨by simp; omega, ?_⟩
      intro y hy
      rcases List.mem_cons.1 hy with rfl | hy
      · simp
      · have := h2 y hy
        simp
        omega
    · rw [if_neg hx]
      split
      · rename_i a t he
        rw [he] at h1 h2
        refine ⟨by simp at h1 ⊢; omega, ?_⟩
        intro y hy
        rcases List.mem_cons.1 hy with rfl | hy
        · have := h2 a List.mem_cons_self
          simp
          omega
        · have := h2 y (List.mem_cons_of_mem _ hy)
          simp
          omega
      · exact ⟨by simp, by intro y hy; rw [List.mem_singleton.1 hy]; simp⟩
def em (l : List UInt8) : Int := if l = [] then 1 else 0
end Go.Proofs.YtnbpoplomdocjaaGreatDoor.Cut

namespace Go.Proofs.YtnbpoplomdocjaaGreatDoor.Giv
open Go.RowKit
set_option linter.unusedSimpArgs false
set_option linter.unusedVariables false

/-- The blocks of w outside S stand in w'. -/
structure Fr (S : Nat → Prop) (w w' : World) : Prop where
  os : w'.os = w.os
  tape : w'.tape = w.tape
  output : w'.output = w.output
  size : w.heap.size ≤ w'.heap.size
  block : ∀ k, k < w.heap.size → ¬ S k → w'.heap[k]? = w.heap[k]?
namespace Fr
variable {S : Nat → Prop} {a w w' : World}
theorem refl (S : Nat → Prop) (w : World) : Fr S w w := ⟨rfl, rfl, rfl, Nat.le_refl _, fun _ _ _ => rfl⟩
theorem trans {b : World} (h : Fr S a b) (k : Fr S b w) : Fr S a w :=
  ⟨k.os.trans h.os, k.tape.trans h.tape, k.output.trans h.output, Nat.le_trans h.size k.size, fun i hi hS => (k.block i (by have := h.size; omega) hS).trans (h.block i hi hS)⟩
theorem drew (h : Fr S a w) : Fr S a w.drew := ⟨h.os, h.tape, h.output, h.size, h.block⟩
theorem alloc (h : Fr S a w) (o : Obj) : Fr S a (w.alloc o) := h.trans ⟨rfl, rfl, rfl, by simp, fun k hk _ => Below.heap_alloc _ _ _ hk⟩
theorem setCell (h : Fr S a w) {p : Addr} (hp : S p.block) (u : Value) : Fr S a (w.setCell p u) :=
  h.trans ⟨rfl, rfl, rfl, by simp [World.setCell], fun k _ hS => Below.heap_setCell _ _ _ _ (fun e => hS (e ▸ hp))⟩
theorem grown {row : Option Nat} (h : Fr S a w) (hg : w.grownBy w' row) (hr : ∀ k, row = some k → S k) : Fr S a w' :=
  h.trans ⟨hg.os, hg.tape, hg.output, hg.size, fun k hk hS => hg.block k hk (fun e => hS (hr k e.symm))⟩
theorem freeze (h : Fr S a w) {p : Addr} (hp : S p.block) (n : Nat) : Fr S a (w.freeze p n) := by
  refine h.trans ?_
  unfold World.freeze
  split
  · exact refl S w
  · exact ⟨rfl, rfl, rfl, by simp, fun k _ hS => by
      simp only [Array.getElem?_modify]
      rw [if_neg (fun (e : p.block = k) => hS (e ▸ hp))]⟩
theorem mono {S' : Nat → Prop} (h : Fr S a w) (hs : ∀ k, S k → S' k) : Fr S' a w := ⟨h.os, h.tape, h.output, h.size, fun k hk hS => h.block k hk (fun e => hS (hs k e))⟩
theorem below (h : Fr S a w) {B : Nat} (hB : B ≤ a.heap.size) (hS : ∀ k, S k → B ≤ k) : Below B a w :=
  ⟨h.os, h.tape, h.output, h.size, fun k hk => h.block k (by omega) (fun e => by have := hS k e; omega)⟩
theorem of_below {B : Nat} (h : Below B a w) : Fr (fun k => B ≤ k) a w := ⟨h.os, h.tape, h.output, h.size, fun k _ hS => h.block k (by omega)⟩
end Fr

/-- A builder in block b, its bytes in the row that v leads to, which lies from base on. -/
def BV (b base : Nat) (v : Value) (bs : List Value) (w : World) : Prop :=
  (∃ p, (p = Value.pointer none ∨ p = .pointer (some ⟨b, 0, none⟩)) ∧ w.heap[b]? = some (.cells #[p, v] 125 (0, 0))) ∧ w.ownsRowF base 5 1 v bs.length bs
/-- What a writing method may turn. -/
def BS (b : Nat) (v : Value) (k : Nat) : Prop := k = b ∨ v.ownBlock = some k
theorem BV.fresh (w : World) (base : Nat) : BV w.heap.size base (.slice none 0 0) [] (w.alloc (.cells #[.pointer none, .slice none 0 0] 125)) :=
  ⟨⟨_, .inl rfl, heap_alloc_new _ _⟩, World.ownsRowF_nil _ _ _ _⟩
theorem BV.slice {b base : Nat} {v : Value} {bs : List Value} {w : World} (h : BV b base v bs w) : ∃ ao cap, v = .slice ao bs.length cap := by
  rcases h.2.2 with ⟨hv, h0⟩ | ⟨g, cap, cur, fz, hv, _⟩
  · exact ⟨none, 0, by rw [hv, h0]⟩
  · exact ⟨_, _, hv⟩
theorem BV.ne {b base : Nat} {v : Value} {bs : List Value} {w : World} (h : BV b base v bs w) : v.ownBlock ≠ some b := by
  obtain ⟨⟨p, _, hb⟩, hown⟩ := h
  intro e
  rcases hown.2 with ⟨rfl, _⟩ | ⟨g, cap, cur, fz, rfl, _, hg, _⟩
  · simp [Value.ownBlock] at e
  · have : g = b := by simpa [Value.ownBlock] using e
    subst this
    rw [hg] at hb
    injection hb with hb
    injection hb with _ hb
    exact absurd hb (by decide)
theorem BV.lt {b base : Nat} {v : Value} {bs : List Value} {w : World} (h : BV b base v bs w) : b < w.heap.size := by
  obtain ⟨⟨p, _, hb⟩, _⟩ := h
  rcases Nat.lt_or_ge b w.heap.size with h' | h'
  · exact h'
  · simp [Array.getElem?_eq_none h'] at hb
/-- Over a step that turns neither its block nor its row. -/
theorem BV.kept {S : Nat → Prop} {b base : Nat} {v : Value} {bs : List Value} {w w' : World} (h : BV b base v bs w) (f : Fr S w w') (hb : ¬ S b) (hr : ∀ k, v.ownBlock = some k → ¬ S k) : BV b base v bs w' := by
  have hlt := h.lt
  obtain ⟨⟨p, hp, hh⟩, h1, h2⟩ := h
  refine ⟨⟨p, hp, (f.block b hlt hb).trans hh⟩, h1, ?_⟩
  rcases h2 with h2 | ⟨g, cap, cur, fz, rfl, hg, hh', r⟩
  · exact .inl h2
  · have hgl : g < w.heap.size := by
      rcases Nat.lt_or_ge g w.heap.size with h' | h'
      · exact h'
      · simp [Array.getElem?_eq_none h'] at hh'
    exact .inr ⟨g, cap, cur, fz, rfl, hg, (f.block g hgl (hr g (by simp [Value.ownBlock]))).trans hh', r⟩

theorem sizeBuilder : (Tryz.prog.info? 125).map (·.size) = some 2 := by kernel_rfl
theorem liesBuilder : liesAt Tryz.prog Tryz.prog.depth 125 (2 / Tryz.prog.cellsOf 125) 0 125 1 = true := by kernel_rfl

set_option maxHeartbeats 1000000 in
set_option maxRecDepth 100000 in
theorem copyCheck_used (b : Nat) (w : World) (h0 : w.cell? ⟨b, 0, none⟩ = some (.pointer (some ⟨b, 0, none⟩))) :
    Calls Tryz.prog 114 #[.pointer (some ⟨b, 0, none⟩)] w fun e w' => e = .returned (.tuple #[]) ∧ w' = w := by
  obtain ⟨j, hj, _⟩ := Option.map_eq_some_iff.1 sizeBuilder
  go_enter Tryz.func114, Tryz.ntmps114
  go_wp2
  rw [Lib.run_neq_ptr_same w _ Tryz.underlying123 hj]
  go_wp2
  go_end0
  exact ⟨rfl, rfl⟩
set_option maxHeartbeats 1000000 in
set_option maxRecDepth 100000 in
theorem copyCheck_fresh (b : Nat) (w : World) (h0 : w.cell? ⟨b, 0, none⟩ = some (.pointer none)) (hsh : w.shape? b = some (125, 2)) (hfz : w.frozen? ⟨b, 0, none⟩ = false) :
    Calls Tryz.prog 114 #[.pointer (some ⟨b, 0, none⟩)] w fun e w' => e = .returned (.tuple #[]) ∧ w' = w.setCell ⟨b, 0, none⟩ (.pointer (some ⟨b, 0, none⟩)) := by
  obtain ⟨j, hj, hjs⟩ := Option.map_eq_some_iff.1 sizeBuilder
  go_enter Tryz.func114, Tryz.ntmps114
  go_wp2
  rw [Lib.run_to_unsafe w ⟨b, 0, none⟩ Tryz.underlying123 Tryz.underlying175 hj (by rw [hjs]; decide) hsh (Nat.zero_lt_succ 1)]
  simp only [Result.andThen]
  rw [Oper.upon_value]
  go_wp2
  rw [run_callFunc_extern Tryz.func129 (by kernel_rfl) (by kernel_rfl) (by kernel_rfl) (e := Extern.AbiNoEscape.same) (by kernel_rfl)]
  rw [Lib.run_noEscape]
  simp only [Result.andThen]
  rw [Oper.upon_value]
  go_wp2
  rw [Lib.run_from_unsafe w ⟨b, 0, none⟩ Tryz.underlying175 Tryz.underlying123 hj hsh liesBuilder]
  simp only [Result.andThen]
  rw [Oper.upon_value]
  go_wp2
  go_end0
  exact ⟨rfl, rfl⟩

theorem copyCheck_calls (b base : Nat) (v : Value) (bs : List Value) (w : World) (h : BV b base v bs w) :
    Calls Tryz.prog 114 #[.pointer (some ⟨b, 0, none⟩)] w fun e w' => e = .returned (.tuple #[]) ∧ w'.heap[b]? = some (.cells #[.pointer (some ⟨b, 0, none⟩), v] 125 (0, 0)) ∧ BV b base v bs w' ∧ Fr (BS b v) w w' := by
  have hne := h.ne
  have hlt := h.lt
  obtain ⟨⟨p, hp, hb⟩, hown⟩ := h
  rcases hp with rfl | rfl
  · refine (copyCheck_fresh b w (by rw [Lib.cell_of_heap hb]; rfl) (by simp [World.shape?, hb]) (Lib.frozen_of_heap hb 0)).mono ?_
    rintro e w' ⟨rfl, rfl⟩
    have hb' : (w.setCell ⟨b, 0, none⟩ (.pointer (some ⟨b, 0, none⟩))).heap[b]? = some (.cells #[.pointer (some ⟨b, 0, none⟩), v] 125 (0, 0)) := by
      simp only [World.setCell, Array.getElem?_modify, hb]
      simp
    refine ⟨rfl, hb', ⟨⟨_, .inr rfl, hb'⟩, hown.1, ?_⟩, (Fr.refl _ w).setCell (.inl rfl) _⟩
    rcases hown.2 with h2 | ⟨g, cap, cur, fz, rfl, hg, hh', r⟩
    · exact .inl h2
    · exact .inr ⟨g, cap, cur, fz, rfl, hg, (Below.heap_setCell _ _ _ _ (fun e => hne (by simp [Value.ownBlock, e]))).trans hh', r⟩
  · refine (copyCheck_used b w (by rw [Lib.cell_of_heap hb]; rfl)).mono ?_
    rintro e w' ⟨rfl, rfl⟩
    exact ⟨rfl, hb, ⟨⟨_, .inr rfl, hb⟩, hown⟩, Fr.refl _ _⟩

set_option maxHeartbeats 4000000 in
set_option maxRecDepth 100000 in
theorem writeRune_calls (b base : Nat) (v : Value) (bs : List Value) (r : Int) (hr0 : -2147483648 ≤ r) (hr1 : r ≤ 2147483647) (w : World) (h : BV b base v bs w) (hlen : bs.length + 4 ≤ 140737488355328) (hBw : base ≤ w.heap.size) :
    Calls Tryz.prog 88 #[.pointer (some ⟨b, 0, none⟩), .int .i32 r] w fun e w' => e = .returned (.tuple #[.int .i64 (Lib.runeCells r).length, .nilIface]) ∧ ∃ v', BV b base v' (bs ++ Lib.runeCells r) w' ∧ Fr (BS b v) w w' := by
  have hk4 := Lib.runeCells_le r
  have hne := h.ne
  go_enter Tryz.func88, Tryz.ntmps88
  go_wp2_with (go_at_call 114; refine (copyCheck_calls b base v bs _ h).mono ?_)
  rintro e w1 ⟨rfl, hbk, h1, hf1⟩
  have hlt := h1.lt
  obtain ⟨ao, cap, rfl⟩ := h1.slice
  obtain ⟨_, hown⟩ := h1
  have c0 : w1.cell? ⟨b, 0, none⟩ = some (.pointer (some ⟨b, 0, none⟩)) := by rw [Lib.cell_of_heap hbk]; rfl
  have c1 : w1.cell? ⟨b, 1, none⟩ = some (.slice ao bs.length cap) := by rw [Lib.cell_of_heap hbk]; rfl
  go_wp2_with (go_at_call 115; refine (Tryz.utf8_AppendRune_row base _ bs.length bs r hr0 hr1 _ hown hlen (by have := hf1.size; omega)).mono ?_)
  rintro e w2 ⟨v', rfl, hown', o, hgrow⟩
  have hb2 : w2.heap[b]? = some (.cells #[.pointer (some ⟨b, 0, none⟩), .slice ao bs.length cap] 125 (0, 0)) := by
    rw [hgrow.block b (by simp; omega) (fun e => hne e.symm), Lib.alloc_old w1 _ b hlt]
    exact hbk
  have d0 : w2.cell? ⟨b, 0, none⟩ = some (.pointer (some ⟨b, 0, none⟩)) := by rw [Lib.cell_of_heap hb2]; rfl
  have d1 : w2.cell? ⟨b, 1, none⟩ = some (.slice ao bs.length cap) := by rw [Lib.cell_of_heap hb2]; rfl
  have f1 : w2.frozen? ⟨b, 1, none⟩ = false := Lib.frozen_of_heap hb2 1
  obtain ⟨g, cap', rfl⟩ : ∃ g cap', v' = .slice (some ⟨g, 0, none⟩) (bs.length + (Lib.runeCells r).length) cap' := by
    rcases hown'.2 with ⟨_, h0⟩ | ⟨g, cap', cur, fz, hv, _⟩
    · omega
    · exact ⟨g, cap', hv⟩
  go_wp2
  go_ret2
  have hb3 : (w2.setCell ⟨b, 1, none⟩ (.slice (some ⟨g, 0, none⟩) (bs.length + (Lib.runeCells r).length) cap')).heap[b]? = some (.cells #[.pointer (some ⟨b, 0, none⟩), .slice (some ⟨g, 0, none⟩) (bs.length + (Lib.runeCells r).length) cap'] 125 (0, 0)) := by
    simp only [World.setCell, Array.getElem?_modify, hb2]
    simp
  refine ⟨?_, _, ⟨⟨_, .inr rfl, hb3⟩, by simp, ?_⟩, ((hf1.alloc o).grown hgrow (fun k e => .inr e)).setCell (.inl rfl) _⟩
  · have e : ((bs.length : Int) + ((Lib.runeCells r).length : Int) - (bs.length : Int)) = ((Lib.runeCells r).length : Int) := by omega
    simp [e]
  · rcases hown'.2 with ⟨hz, _⟩ | ⟨g2, cap2, cur, fz, hv, hg, hh', r2⟩
    · simp at hz
    · refine .inr ⟨g2, cap2, cur, fz, by simpa using hv, hg, (Below.heap_setCell _ _ _ _ (fun (e : g2 = b) => ?_)).trans hh', by simpa using r2⟩
      subst e
      rw [hb2] at hh'
      injection hh' with hb
      injection hb with _ hb
      exact absurd hb (by decide)

set_option maxHeartbeats 1000000 in
set_option maxRecDepth 100000 in
theorem len_calls (b base : Nat) (v : Value) (bs : List Value) (w : World) (h : BV b base v bs w) :
    Calls Tryz.prog 109 #[.pointer (some ⟨b, 0, none⟩)] w fun e w' => e = .returned (.int .i64 bs.length) ∧ w = w' := by
  obtain ⟨ao, cap, rfl⟩ := h.slice
  obtain ⟨⟨p, hp, hbk⟩, hown⟩ := h
  have c1 : w.cell? ⟨b, 1, none⟩ = some (.slice ao bs.length cap) := by rw [Lib.cell_of_heap hbk]; rfl
  go_enter Tryz.func109, Tryz.ntmps109
  go_wp2
  go_ret
  exact ⟨rfl, rfl⟩

theorem cellsByte : Tryz.prog.cellsOf 5 = 1 := by kernel_rfl
set_option maxHeartbeats 2000000 in
set_option maxRecDepth 100000 in
/-- String of a builder that holds something. -/
theorem string_calls (b base : Nat) (v : Value) (l : List UInt8) (w : World) (h : BV b base v (Lib.byteCells l) w) (h0 : l ≠ []) :
    Calls Tryz.prog 89 #[.pointer (some ⟨b, 0, none⟩)] w fun e w' => e = .returned (.string ⟨l.toArray⟩) ∧ Fr (BS b v) w w' := by
  obtain ⟨⟨p, hp, hbk⟩, hown⟩ := h
  have hl0 : l.length ≠ 0 := by simpa using h0
  rw [Lib.byteCells_length] at hown
  obtain ⟨g, cap, cur, fz, rfl, hbg, hg, hfz, hnc, hcm, hcs, htake⟩ : ∃ g cap cur fz, v = .slice (some ⟨g, 0, none⟩) l.length cap ∧ base ≤ g ∧ w.heap[g]? = some (.cells cur 5 fz) ∧ fz.2 ≤ l.length * 1 ∧ l.length ≤ cap ∧ cap ≤ maxLen ∧ cur.size = cap * 1 ∧ cur.toList.take (l.length * 1) = Lib.byteCells l := by
    rcases hown.2 with ⟨_, hz⟩ | ⟨g, cap, cur, fz, hv, r⟩
    · exact absurd hz hl0
    · exact ⟨g, cap, cur, fz, hv, r⟩
  have c1 : w.drew.cell? ⟨b, 1, none⟩ = some (.slice (some ⟨g, 0, none⟩) l.length cap) := by
    have : w.drew.heap[b]? = some (.cells #[p, .slice (some ⟨g, 0, none⟩) l.length cap] 125 (0, 0)) := hbk
    rw [Lib.cell_of_heap this]; rfl
  have hSD : (Builtin.unsafeSliceData_ #[111] 155 #[.slice (some ⟨g, 0, none⟩) l.length cap]).run Tryz.prog w.drew = .ok (.pointer (some ⟨g, 0, none⟩)) w.drew :=
    Lib.run_unsafeSliceData_row _ _ _ _ _ _ (by omega)
  have hUS : (Builtin.unsafeString_ #[155, 3] 9 #[.pointer (some ⟨g, 0, none⟩), .int .i64 l.length]).run Tryz.prog w.drew = .ok (.string ⟨l.toArray⟩) (w.drew.freeze ⟨g, 0, none⟩ l.length) := by
    refine Lib.run_unsafeString_row w.drew 155 3 9 5 Tryz.underlying155 cellsByte g cur.size (by have hg' : w.drew.heap[g]? = some (.cells cur 5 fz) := hg; simp [World.shape?, hg']) l h0 (by omega) (by unfold maxLen at hcm; omega) ?_
    intro j x hx
    have := hown.cells (g := g) rfl j (.int .u8 x.toNat) (by simp [Lib.byteCells, hx])
    exact this
  go_enter Tryz.func89, Tryz.ntmps89
  go_wp2
  go_region
  all_goals (go_wp2; go_ret; exact ⟨rfl, ((Fr.refl _ w).drew).freeze (.inr rfl) _⟩)
end Go.Proofs.YtnbpoplomdocjaaGreatDoor.Giv

namespace Go.Proofs.YtnbpoplomdocjaaGreatDoor.Giv
open Go.RowKit Go.Proofs.YtnbpoplomdocjaaGreatDoor.Ord
set_option linter.unusedSimpArgs false
set_option linter.unusedVariables false

def digI (n : Int) : Bool := decide (48 ≤ n ∧ n ≤ 57)
theorem runeDig_calls (n : Int) (w : World) : Calls Tryz.prog 80 #[.int .i32 n] w fun e w' => e = .returned (.bool (digI n)) ∧ w = w' := by
  by_cases h1 : (48 : Int) ≤ n
  · by_cases h2 : n ≤ 57
    · have e : digI n = true := by unfold digI; simp; omega
      rw [e]
      clear e
      go_enter Tryz.func80, Tryz.ntmps80
      go_wp2
      go_ret
      exact ⟨by simp [h2], rfl⟩
    · have e : digI n = false := by unfold digI; simp; omega
      rw [e]
      clear e
      go_enter Tryz.func80, Tryz.ntmps80
      go_wp2
      go_ret
      exact ⟨by simp [h2], rfl⟩
  · have e : digI n = false := by unfold digI; simp; omega
    rw [e]
    clear e
    go_enter Tryz.func80, Tryz.ntmps80
    go_wp2
    go_ret
    exact ⟨by simp [h1], rfl⟩
end Go.Proofs.YtnbpoplomdocjaaGreatDoor.Giv

namespace Go.Proofs.YtnbpoplomdocjaaGreatDoor.Giv
open Go.RowKit Go.Proofs.YtnbpoplomdocjaaGreatDoor.Ord
set_option linter.unusedSimpArgs false
set_option linter.unusedVariables false

def letI_ (n : Int) : Bool := decide (65 ≤ n ∧ n ≤ 90 ∨ 97 ≤ n ∧ n ≤ 122)
theorem runeLet_calls (n : Int) (w : World) : Calls Tryz.prog 108 #[.int .i32 n] w fun e w' => e = .returned (.bool (letI_ n)) ∧ w = w' := by
  obtain ⟨r, hr⟩ : ∃ r, r = letI_ n := ⟨_, rfl⟩
  rw [← hr]
  have HR := Lib.hid hr
  clear hr
  by_cases h1 : (65 : Int) ≤ n <;> by_cases h2 : n ≤ (90 : Int) <;> by_cases h3 : (97 : Int) ≤ n <;> by_cases h4 : n ≤ (122 : Int)
  all_goals first
    | (exfalso; omega)
    | (go_enter Tryz.func108, Tryz.ntmps108
       go_wp2
       go_ret
       refine ⟨?_, rfl⟩
       have e := HR.out
       unfold letI_ at e
       simp [h1, h2, h3, h4] at e
       rw [e]
       first | rfl | simp [h1, h2, h3, h4])

theorem digI_yes (s : ByteArray) (n : Nat) (h : n < s.size) (hd : digI ((Utf8.decode s n).1 : Int) = true) : Utf8.decode s n = ((s[n]'h).toNat, 1) ∧ (s[n]'h).toNat < 128 ∧ Rpm.dig (s[n]'h) = true := by
  rcases dec_cases' s n h with ⟨ha, e⟩ | ⟨ha, hb, hc⟩
  · rw [e] at hd
    simp only [digI, decide_eq_true_eq] at hd
    exact ⟨e, ha, by simp only [Rpm.dig, decide_eq_true_eq]; omega⟩
  · simp only [digI, decide_eq_true_eq] at hd
    omega
theorem digI_no (s : ByteArray) (n : Nat) (h : n < s.size) (hd : digI ((Utf8.decode s n).1 : Int) = false) : Rpm.dig (s[n]'h) = false := by
  rcases dec_cases' s n h with ⟨ha, e⟩ | ⟨ha, hb, hc⟩
  · rw [e] at hd
    simp only [digI, decide_eq_false_iff_not] at hd
    simp only [Rpm.dig, decide_eq_false_iff_not]
    omega
  · simp only [Rpm.dig, decide_eq_false_iff_not]
    omega
theorem letI__yes (s : ByteArray) (n : Nat) (h : n < s.size) (hd : letI_ ((Utf8.decode s n).1 : Int) = true) : Utf8.decode s n = ((s[n]'h).toNat, 1) ∧ (s[n]'h).toNat < 128 ∧ Rpm.let_ (s[n]'h) = true := by
  rcases dec_cases' s n h with ⟨ha, e⟩ | ⟨ha, hb, hc⟩
  · rw [e] at hd
    simp only [letI_, decide_eq_true_eq] at hd
    exact ⟨e, ha, by simp only [Rpm.let_, decide_eq_true_eq]; omega⟩
  · simp only [letI_, decide_eq_true_eq] at hd
    omega
theorem letI__no (s : ByteArray) (n : Nat) (h : n < s.size) (hd : letI_ ((Utf8.decode s n).1 : Int) = false) : Rpm.let_ (s[n]'h) = false := by
  rcases dec_cases' s n h with ⟨ha, e⟩ | ⟨ha, hb, hc⟩
  · rw [e] at hd
    simp only [letI_, decide_eq_false_iff_not] at hd
    simp only [Rpm.let_, decide_eq_false_iff_not]
    omega
  · simp only [Rpm.let_, decide_eq_false_iff_not]
    omega

theorem rune_one (c : UInt8) (h : c.toNat < 128) : Lib.runeCells ((c.toNat : Nat) : Int) = Lib.byteCells [c] := by
  unfold Lib.runeCells
  rw [Lib.encodeRuneZ_one (by omega) (by omega)]
  rfl
theorem Fr.iterAt (w : World) (k : Nat) (s : ByteArray) (pos : Nat) : Fr (fun j => j = k) w (w.iterAt k s pos) :=
  ⟨rfl, rfl, rfl, by rw [Lib.iterAt_size]; exact Nat.le_refl _, fun j _ hj => Lib.iterAt_other w k j s pos hj⟩
theorem Fr.new (w : World) (o : Obj) : Fr (fun _ => False) w (w.alloc o) := (Fr.refl _ w).alloc o
end Go.Proofs.YtnbpoplomdocjaaGreatDoor.Giv

namespace Go.Proofs.YtnbpoplomdocjaaGreatDoor.Canon
set_option linter.unusedVariables false
set_option linter.unusedSimpArgs false
open Go.Proofs.YtnbpoplomdocjaaGreatDoor.Ord Go.Proofs.YtnbpoplomdocjaaGreatDoor.Rpm Go.Proofs.YtnbpoplomdocjaaGreatDoor.Giv

/-- Of any text, from a place on. -/
def canonG (s : ByteArray) : Nat → Nat → Bool → Bool → List UInt8
  | 0, _, _, _ => []
  | n + 1, pos, cp, pd => if pos < s.size then
      (if (Utf8.decode s pos).1 = 46 then 46 :: canonG s n (pos + (Utf8.decode s pos).2) false pd
      else (if (cp && (pd != digI ((Utf8.decode s pos).1 : Int))) = true then [46] else []) ++ (Lib.encodeRune ((Utf8.decode s pos).1 : Int) ++ canonG s n (pos + (Utf8.decode s pos).2) true (digI ((Utf8.decode s pos).1 : Int))))
    else []
/-- A text's form with points between. -/
def canonS (s : ByteArray) : List UInt8 := canonG s s.size 0 false true
theorem decode_pos (s : ByteArray) (pos : Nat) (h : pos < s.size) : 1 ≤ (Utf8.decode s pos).2 := by
  rcases dec_cases' s pos h with ⟨_, e⟩ | ⟨_, _, e⟩
  · rw [e]
    exact Nat.le_refl _
  · exact e
theorem enc_len (r : Int) : (Lib.encodeRune r).length ≤ 4 := by
  rw [← Lib.runeCells_length]
  exact (Lib.runeCells_le r).2
/-- More fuel than bytes changes nothing. -/
theorem canonG_fuel (s : ByteArray) : ∀ (n : Nat) (pos : Nat) (cp pd : Bool), s.size - pos ≤ n → canonG s (n + 1) pos cp pd = canonG s n pos cp pd
  | 0, pos, cp, pd, h => by
    unfold canonG
    rw [if_neg (by omega)]
  | n + 1, pos, cp, pd, h => by
    rw [canonG]
    conv => rhs; rw [canonG]
    by_cases hp : pos < s.size
    · have d := decode_pos s pos hp
      rw [if_pos hp, if_pos hp, canonG_fuel s n _ _ _ (by omega), canonG_fuel s n _ _ _ (by omega)]
    · rw [if_neg hp, if_neg hp]
/-- What is still to come at a place. -/
def rest (s : ByteArray) (pos : Nat) (cp pd : Bool) : List UInt8 := canonG s (s.size - pos) pos cp pd
theorem canonG_more (s : ByteArray) (pos : Nat) (cp pd : Bool) (k : Nat) : canonG s (s.size - pos + k) pos cp pd = canonG s (s.size - pos) pos cp pd := by
  induction k with
  | zero => rfl
  | succ k ih => rw [← Nat.add_assoc, canonG_fuel s _ pos cp pd (by omega), ih]
theorem rest_end (s : ByteArray) (pos : Nat) (cp pd : Bool) (h : ¬ pos < s.size) : rest s pos cp pd = [] := by
  unfold rest
  rw [show s.size - pos = 0 by omega]
  rfl
theorem rest_step (s : ByteArray) (pos : Nat) (cp pd : Bool) (h : pos < s.size) : rest s pos cp pd =
    if (Utf8.decode s pos).1 = 46 then 46 :: rest s (pos + (Utf8.decode s pos).2) false pd
    else (if (cp && (pd != digI ((Utf8.decode s pos).1 : Int))) = true then [46] else []) ++ (Lib.encodeRune ((Utf8.decode s pos).1 : Int) ++ rest s (pos + (Utf8.decode s pos).2) true (digI ((Utf8.decode s pos).1 : Int))) := by
  have d := decode_pos s pos h
  unfold rest
  obtain ⟨m, hm⟩ : ∃ m, s.size - pos = m + 1 := ⟨s.size - pos - 1, by omega⟩
  rw [hm, canonG, if_pos h]
  have e : ∀ (c p : Bool), canonG s m (pos + (Utf8.decode s pos).2) c p = canonG s (s.size - (pos + (Utf8.decode s pos).2)) (pos + (Utf8.decode s pos).2) c p := fun c p => by
    have := canonG_more s (pos + (Utf8.decode s pos).2) c p (m - (s.size - (pos + (Utf8.decode s pos).2)))
    rw [← this]
    congr 1
    omega
  rw [e, e]
theorem rest_len (s : ByteArray) (d : Nat) : ∀ (pos : Nat) (cp pd : Bool), s.size - pos ≤ d → (rest s pos cp pd).length ≤ 5 * (s.size - pos) := by
  induction d with
  | zero =>
    intro pos cp pd h
    rw [rest_end s pos cp pd (by omega)]
    simp
  | succ d ih =>
    intro pos cp pd h
    by_cases hp : pos < s.size
    · have dp := decode_pos s pos hp
      rw [rest_step s pos cp pd hp]
      have i1 := ih (pos + (Utf8.decode s pos).2) false pd (by omega)
      have i2 := ih (pos + (Utf8.decode s pos).2) true (digI ((Utf8.decode s pos).1 : Int)) (by omega)
      have el := enc_len ((Utf8.decode s pos).1 : Int)
      split
      · rw [List.length_cons]
        omega
      · rw [List.length_append, List.length_append]
        split
        · rw [List.length_singleton]
          omega
        · rw [List.length_nil]
          omega
    · rw [rest_end s pos cp pd hp]
      simp
theorem canonS_len (s : ByteArray) : (canonS s).length ≤ 5 * s.size := by
  have := rest_len s s.size 0 false true (by omega)
  simpa [rest, canonS] using this
theorem canonS_rest (s : ByteArray) : canonS s = rest s 0 false true := rfl
end Go.Proofs.YtnbpoplomdocjaaGreatDoor.Canon

namespace Go.Proofs.YtnbpoplomdocjaaGreatDoor.Giv
open Go.RowKit
set_option linter.unusedSimpArgs false
set_option linter.unusedVariables false

theorem infoByteB : (Tryz.prog.info? 5).map (fun i => (i.zero, i.size, i.bytes)) = some (some (.int .u8 0), 1, 1) := by kernel_rfl
theorem strCells_bytes (s : ByteArray) : Lib.strCells s = Lib.byteCells s.toList := by
  unfold Lib.strCells Lib.byteCells
  rw [show s.toList = s.data.toList by first | exact ByteArray.toList_eq s | exact Go.Lib.toList_data s]
set_option maxHeartbeats 4000000 in
set_option maxRecDepth 100000 in
theorem writeString_calls (b base : Nat) (v : Value) (bs : List Value) (s : ByteArray) (hs0 : 0 < s.size) (w : World) (h : BV b base v bs w) (hlen : bs.length + s.size ≤ 140737488355328) (hBw : base ≤ w.heap.size) :
    Calls Tryz.prog 87 #[.pointer (some ⟨b, 0, none⟩), .string s] w fun e w' => e = .returned (.tuple #[.int .i64 s.size, .nilIface]) ∧ ∃ v', BV b base v' (bs ++ Lib.strCells s) w' ∧ Fr (BS b v) w w' := by
  have hne := h.ne
  have hcl := Lib.strCells_length s
  obtain ⟨i0, hi, hz0, hz1, hz2⟩ := info_parts infoByteB
  go_enter Tryz.func87, Tryz.ntmps87
  go_wp2_with (go_at_call 114; refine (copyCheck_calls b base v bs _ h).mono ?_)
  rintro e w1 ⟨rfl, hbk, h1, hf1⟩
  have hlt := h1.lt
  obtain ⟨_, hown⟩ := h1
  have c0 : w1.cell? ⟨b, 0, none⟩ = some (.pointer (some ⟨b, 0, none⟩)) := by rw [Lib.cell_of_heap hbk]; rfl
  have c1 : w1.cell? ⟨b, 1, none⟩ = some v := by rw [Lib.cell_of_heap hbk]; rfl
  go_wp2_with (at_builtin; refine Lib.wpList_append_own_stringF _ rfl _ _ 111 9 rfl base 5 i0 Tryz.underlying111 Tryz.underlying9 hi hz0 hz1 hz2 _ _ _ rfl hown s rfl ?c3 ?c4 ?c5 ?_)
  case c3 => unfold maxLen; omega
  case c4 => omega
  case c5 => have := hf1.size; omega
  intro v' w2 hown' hgrow _
  have hb2 : w2.heap[b]? = some (.cells #[.pointer (some ⟨b, 0, none⟩), v] 125 (0, 0)) := by
    rw [hgrow.block b hlt (fun e => hne e.symm)]
    exact hbk
  have d0 : w2.cell? ⟨b, 0, none⟩ = some (.pointer (some ⟨b, 0, none⟩)) := by rw [Lib.cell_of_heap hb2]; rfl
  have d1 : w2.cell? ⟨b, 1, none⟩ = some v := by rw [Lib.cell_of_heap hb2]; rfl
  have f1 : w2.frozen? ⟨b, 1, none⟩ = false := Lib.frozen_of_heap hb2 1
  obtain ⟨g, cap', rfl⟩ : ∃ g cap', v' = .slice (some ⟨g, 0, none⟩) (bs.length + s.size) cap' := by
    rcases hown'.2 with ⟨_, h0⟩ | ⟨g, cap', cur, fz, hv, _⟩
    · omega
    · exact ⟨g, cap', hv⟩
  go_wp2
  go_ret2
  have hb3 : (w2.setCell ⟨b, 1, none⟩ (.slice (some ⟨g, 0, none⟩) (bs.length + s.size) cap')).heap[b]? = some (.cells #[.pointer (some ⟨b, 0, none⟩), .slice (some ⟨g, 0, none⟩) (bs.length + s.size) cap'] 125 (0, 0)) := by
    simp only [World.setCell, Array.getElem?_modify, hb2]
    simp
  refine ⟨rfl, _, ⟨⟨_, .inr rfl, hb3⟩, by simp [hcl], ?_⟩, (hf1.grown hgrow (fun k e => .inr e)).setCell (.inl rfl) _⟩
  rcases hown'.2 with ⟨hz, _⟩ | ⟨g2, cap2, cur, fz, hv, hg, hh', r2⟩
  · simp at hz
  · refine .inr ⟨g2, cap2, cur, fz, by simpa [hcl] using hv, hg, (Below.heap_setCell _ _ _ _ (fun (e : g2 = b) => ?_)).trans hh', by simpa [hcl] using r2⟩
    subst e
    rw [hb2] at hh'
    injection hh' with hb
    injection hb with _ hb
    exact absurd hb (by decide)
end Go.Proofs.YtnbpoplomdocjaaGreatDoor.Giv

namespace Go.Proofs.YtnbpoplomdocjaaGreatDoor.Giv
open Go.RowKit Go.Proofs.YtnbpoplomdocjaaGreatDoor.Ord Go.Proofs.YtnbpoplomdocjaaGreatDoor.Canon
set_option linter.unusedSimpArgs false
set_option linter.unusedVariables false

set_option maxHeartbeats 1000000 in
set_option maxRecDepth 100000 in
/-- String of a builder that was never written. -/
theorem string_nil_calls (b : Nat) (p : Value) (w : World) (hbk : w.heap[b]? = some (.cells #[p, .slice none 0 0] 125 (0, 0))) :
    Calls Tryz.prog 89 #[.pointer (some ⟨b, 0, none⟩)] w fun e w' => e = .returned (.string ⟨#[]⟩) ∧ w' = w.drew := by
  have c1 : w.drew.cell? ⟨b, 1, none⟩ = some (.slice none 0 0) := by
    have : w.drew.heap[b]? = some (.cells #[p, .slice none 0 0] 125 (0, 0)) := hbk
    rw [Lib.cell_of_heap this]; rfl
  have hSD : (Builtin.unsafeSliceData_ #[111] 155 #[.slice none 0 0]).run Tryz.prog w.drew = .ok (.pointer none) w.drew := Lib.run_unsafeSliceData_nil _ _ _ _ _
  have hUS : (Builtin.unsafeString_ #[155, 3] 9 #[.pointer none, .int .i64 0]).run Tryz.prog w.drew = .ok (.string .empty) w.drew := Lib.run_unsafeString_none _ _ _ _ _
  go_enter Tryz.func89, Tryz.ntmps89
  go_wp2
  go_region
  all_goals (go_wp2; go_ret; exact ⟨rfl, rfl⟩)
/-- What the loop keeps: a builder, an iterator behind it, all rows behind both. -/
structure Cn (W : World) (b : Nat) (s : ByteArray) (pos : Nat) (v : Value) (l : List UInt8) (w : World) : Prop where
  bv : BV b (b + 2) v (Lib.byteCells l) w
  nil : l = [] → v = .slice none 0 0
  it : w.heap[b + 1]? = some (.stringIter s pos)
  bel : Below W.heap.size W w
  low : W.heap.size ≤ b
  big : b + 2 ≤ w.heap.size
theorem Cn.start (W : World) (s : ByteArray) : Cn W W.heap.size s 0 (.slice none 0 0) [] ((W.alloc (.cells #[.pointer none, .slice none 0 0] 125)).alloc (.stringIter s 0)) := by
  have no : ∀ k : Nat, (Value.slice none 0 0).ownBlock = some k → ¬ False := fun _ _ h => h
  have b1 := BV.fresh W (W.heap.size + 2)
  refine ⟨b1.kept (Fr.new _ _) (fun h => h) no, fun _ => rfl, ?_, ((Below.refl _ W).alloc (Nat.le_refl _) _).alloc (by simp) _, Nat.le_refl _, by simp⟩
  have := heap_alloc_new (W.alloc (.cells #[.pointer none, .slice none 0 0] 125)) (.stringIter s 0)
  simpa using this
theorem Cn.next {W : World} {b : Nat} {s : ByteArray} {pos : Nat} {v : Value} {l : List UInt8} {w : World} (h : Cn W b s pos v l w) (q : Nat) : Cn W b s q v l (w.iterAt (b + 1) s q) := by
  refine ⟨h.bv.kept (Fr.iterAt w (b + 1) s q) (by omega) (fun k hk => ?_), h.nil, Lib.iterAt_heap w (b + 1) s pos q h.it, Lib.below_iterAt h.bel (by have := h.low; omega) s q, h.low, by rw [Lib.iterAt_size]; exact h.big⟩
  have := (h.bv.2.lt k hk).1
  omega
theorem Cn.wrote {W : World} {b : Nat} {s : ByteArray} {pos : Nat} {v v' : Value} {l m : List UInt8} {w w' : World} (h : Cn W b s pos v l w) (hm : m ≠ []) (hb : BV b (b + 2) v' (Lib.byteCells l ++ Lib.byteCells m) w') (hf : Fr (BS b v) w w') : Cn W b s pos v' (l ++ m) w' := by
  have e : Lib.byteCells l ++ Lib.byteCells m = Lib.byteCells (l ++ m) := by simp [Lib.byteCells]
  rw [e] at hb
  have own : ∀ k, v.ownBlock = some k → b + 2 ≤ k := fun k hk => (h.bv.2.lt k hk).1
  refine ⟨hb, fun e => absurd e (by simp [hm]), (hf.block (b + 1) (by have := h.big; omega) (fun hS => ?_)).trans h.it, h.bel.trans (hf.below h.bel.size (fun k hS => ?_)), h.low, Nat.le_trans h.big hf.size⟩
  · rcases hS with hS | hS
    · omega
    · have := own _ hS
      omega
  · rcases hS with hS | hS
    · have := h.low; omega
    · have := own _ hS
      have := h.low
      omega
/-- A point is written. -/
theorem Cn.point {W : World} {b : Nat} {s : ByteArray} {pos : Nat} {v : Value} {l : List UInt8} {w : World} (h : Cn W b s pos v l w) (hl : l.length ≤ 1000000000) :
    Calls Tryz.prog 87 #[.pointer (some ⟨b, 0, none⟩), .string ⟨#[46]⟩] w fun e w' => ∃ r v', e = .returned (.tuple #[r, .nilIface]) ∧ Cn W b s pos v' (l ++ [46]) w' := by
  refine (writeString_calls b (b + 2) v (Lib.byteCells l) ⟨#[46]⟩ (by decide) w h.bv (by rw [Lib.byteCells_length]; have : (⟨#[46]⟩ : ByteArray).size = 1 := rfl; omega) h.big).mono ?_
  rintro e w' ⟨rfl, v', h1, h2⟩
  refine ⟨_, v', rfl, h.wrote (by simp) ?_ h2⟩
  rw [strCells_bytes] at h1
  have : (⟨#[46]⟩ : ByteArray).toList = [46] := by rw [toList_eq']
  rw [this] at h1
  exact h1
/-- A rune is written. -/
theorem Cn.rune {W : World} {b : Nat} {s : ByteArray} {pos : Nat} {v : Value} {l : List UInt8} {w : World} (h : Cn W b s pos v l w) (hl : l.length ≤ 1000000000) (r : Int) (h0 : -2147483648 ≤ r) (h1 : r ≤ 2147483647) :
    Calls Tryz.prog 88 #[.pointer (some ⟨b, 0, none⟩), .int .i32 r] w fun e w' => ∃ r' v', e = .returned (.tuple #[r', .nilIface]) ∧ Cn W b s pos v' (l ++ Lib.encodeRune r) w' := by
  refine (writeRune_calls b (b + 2) v (Lib.byteCells l) r h0 h1 w h.bv (by rw [Lib.byteCells_length]; omega) h.big).mono ?_
  rintro e w' ⟨rfl, v', h1, h2⟩
  refine ⟨_, v', rfl, h.wrote ?_ ?_ h2⟩
  · intro e
    have := (Lib.runeCells_le r).1
    rw [Lib.runeCells_length, e] at this
    simp at this
  · rw [Lib.byteCells_encodeRune]
    exact h1
theorem Cn.str {W : World} {b : Nat} {s : ByteArray} {pos : Nat} {v : Value} {l : List UInt8} {w : World} (h : Cn W b s pos v l w) :
    Calls Tryz.prog 89 #[.pointer (some ⟨b, 0, none⟩)] w fun e w' => e = .returned (.string ⟨l.toArray⟩) ∧ Below W.heap.size W w' := by
  by_cases h0 : l = []
  · have hv := h.nil h0
    subst h0
    obtain ⟨⟨p, hp, hbk⟩, _⟩ := h.bv
    rw [hv] at hbk
    refine (string_nil_calls b p w hbk).mono ?_
    rintro e w' ⟨rfl, rfl⟩
    exact ⟨rfl, ⟨h.bel.os, h.bel.tape, h.bel.output, h.bel.size, h.bel.block⟩⟩
  · refine (string_calls b (b + 2) v l w h.bv h0).mono ?_
    rintro e w' ⟨rfl, hf⟩
    refine ⟨rfl, h.bel.trans (hf.below h.bel.size (fun k hS => ?_))⟩
    rcases hS with hS | hS
    · have := h.low; omega
    · have := (h.bv.2.lt k hS).1
      have := h.low
      omega
set_option maxHeartbeats 8000000 in
set_option maxRecDepth 100000 in
theorem canon_calls (s : ByteArray) (hs : s.size ≤ 100000000) (w : World) :
    Calls Tryz.prog 50 #[.string s] w fun e w' => e = .returned (.string ⟨(canonS s).toArray⟩) ∧ Below w.heap.size w w' := by
  have HF := Lib.hid (canonS_len s)
  have HC := Lib.hid (canonS_rest s)
  obtain ⟨full, ef⟩ : ∃ x, x = canonS s := ⟨_, rfl⟩
  rw [← ef] at HF HC ⊢
  clear ef
  go_enter Tryz.func50, Tryz.ntmps50
  go_wp2_with fail
  go_loopw [4, 5] (fun v4 v5 wr => ∃ (pos : Nat) (cp pd : Bool) (v : Value) (l : List UInt8), v4 = .bool cp ∧ v5 = .bool pd ∧ Cn w w.heap.size s pos v l wr ∧ full = l ++ rest s pos cp pd) (fun v4 v5 wr => s.size - wr.iterPos (w.heap.size + 1))
  case atStart => exact ⟨0, false, true, _, [], rfl, rfl, Cn.start w s, HC.out⟩
  case round =>
    obtain ⟨pos, cp, pd, v, l, rfl, rfl, hcn, hful⟩ := hrel
    have hit := hcn.it
    have hll : l.length ≤ 500000000 := by
      have := HF.out
      have := congrArg List.length hful
      rw [List.length_append] at this
      omega
    by_cases hlt : pos < s.size
    · have hnx : ∀ ty, (Instr.next (.pointer (some ⟨w.heap.size + 1, 0, none⟩)) true ty).run Tryz.prog wr = .ok (.tuple #[.bool true, .int .i64 pos, .int .i32 ((Utf8.decode s pos).1 : Int)]) (wr.iterAt (w.heap.size + 1) s (pos + (Utf8.decode s pos).2)) := fun ty => Lib.run_next_any_at wr (w.heap.size + 1) s pos ty hit hlt
      have hst := rest_step s pos cp pd hlt
      have hdp := decode_pos s pos hlt
      have hdl := decode_le s pos
      have cn1 := Lib.hid (hcn.next (pos + (Utf8.decode s pos).2))
      have HI := Lib.hid hit
      generalize Utf8.decode s pos = dk at hnx hst hdp hdl cn1
      rcases dk with ⟨r, k⟩
      dsimp only at hnx hst hdp hdl cn1
      have h0 : (-2147483648 : Int) ≤ (r : Int) := by omega
      have h1 : (r : Int) ≤ 2147483647 := by omega
      have hl1 : l.length ≤ 1000000000 := by omega
      have hl2 : (l ++ [46]).length ≤ 1000000000 := by rw [List.length_append, List.length_singleton]; omega
      have M : ∀ (w' : World) (v' : Value) (m : List UInt8), Cn w w.heap.size s (pos + k) v' m w' → s.size - w'.iterPos (w.heap.size + 1) < s.size - wr.iterPos (w.heap.size + 1) := fun w' v' m hc => by
        simp only [World.iterPos, hc.it, HI.out]
        omega
      have HM := Lib.hid M
      clear M hdp hdl hit hcn
      by_cases h46 : r = 46
      · have b1 : (((r : Nat) : Int) == 46) = true := beq_iff_eq.2 (by omega)
        rw [if_pos h46] at hst
        have HS := Lib.hid (show full = (l ++ [46]) ++ rest s (pos + k) false pd by rw [hful, hst, List.append_assoc]; rfl)
        clear hst hful h46 hll hl2
        go_wp2_with (first | (go_at_call 87; (with_reducible refine (Cn.point cn1.out hl1).mono ?_); rintro e w3 ⟨r3, v3, rfl, c3⟩; have C3 := Lib.hid c3; clear c3))
        go_roundw
        case rel => exact ⟨pos + k, false, pd, v3, _, rfl, rfl, C3.out, HS.out⟩
        case measure => exact HM.out _ _ _ C3.out
      · have b1 : (((r : Nat) : Int) == 46) = false := beq_eq_false_iff_ne.2 (by omega)
        have rd := fun w' => runeDig_calls ((r : Nat) : Int) w'
        rw [if_neg h46] at hst
        obtain ⟨d, ed⟩ : ∃ d, d = digI ((r : Nat) : Int) := ⟨_, rfl⟩
        rw [← ed] at hst rd
        clear ed h46
        cases cp with
        | false =>
          cases pd with
          | false =>
            cases d with
            | false =>
              have HS := Lib.hid (show full = (l ++ Lib.encodeRune (r : Int)) ++ rest s (pos + k) true false by rw [hful, hst]; simp)
              clear hst hful hll
              go_wp2_with (first | (go_at_call 80; (with_reducible refine (rd _).mono ?_); rintro e w2 ⟨rfl, rfl⟩) | (go_at_call 88; (with_reducible refine (Cn.rune cn1.out hl1 _ h0 h1).mono ?_); rintro e w4 ⟨r4, v4, rfl, c4⟩; have C4 := Lib.hid c4; clear c4))
              go_roundw
              case rel => exact ⟨pos + k, true, false, v4, _, rfl, rfl, C4.out, HS.out⟩
              case measure => exact HM.out _ _ _ C4.out
            | true =>
              have HS := Lib.hid (show full = (l ++ Lib.encodeRune (r : Int)) ++ rest s (pos + k) true true by rw [hful, hst]; simp)
              clear hst hful hll
              go_wp2_with (first | (go_at_call 80; (with_reducible refine (rd _).mono ?_); rintro e w2 ⟨rfl, rfl⟩) | (go_at_call 88; (with_reducible refine (Cn.rune cn1.out hl1 _ h0 h1).mono ?_); rintro e w4 ⟨r4, v4, rfl, c4⟩; have C4 := Lib.hid c4; clear c4))
              go_roundw
              case rel => exact ⟨pos + k, true, true, v4, _, rfl, rfl, C4.out, HS.out⟩
              case measure => exact HM.out _ _ _ C4.out
          | true =>
            cases d with
            | false =>
              have HS := Lib.hid (show full = (l ++ Lib.encodeRune (r : Int)) ++ rest s (pos + k) true false by rw [hful, hst]; simp)
              clear hst hful hll
              go_wp2_with (first | (go_at_call 80; (with_reducible refine (rd _).mono ?_); rintro e w2 ⟨rfl, rfl⟩) | (go_at_call 88; (with_reducible refine (Cn.rune cn1.out hl1 _ h0 h1).mono ?_); rintro e w4 ⟨r4, v4, rfl, c4⟩; have C4 := Lib.hid c4; clear c4))
              go_roundw
              case rel => exact ⟨pos + k, true, false, v4, _, rfl, rfl, C4.out, HS.out⟩
              case measure => exact HM.out _ _ _ C4.out
            | true =>
              have HS := Lib.hid (show full = (l ++ Lib.encodeRune (r : Int)) ++ rest s (pos + k) true true by rw [hful, hst]; simp)
              clear hst hful hll
              go_wp2_with (first | (go_at_call 80; (with_reducible refine (rd _).mono ?_); rintro e w2 ⟨rfl, rfl⟩) | (go_at_call 88; (with_reducible refine (Cn.rune cn1.out hl1 _ h0 h1).mono ?_); rintro e w4 ⟨r4, v4, rfl, c4⟩; have C4 := Lib.hid c4; clear c4))
              go_roundw
              case rel => exact ⟨pos + k, true, true, v4, _, rfl, rfl, C4.out, HS.out⟩
              case measure => exact HM.out _ _ _ C4.out
        | true =>
          cases pd with
          | false =>
            cases d with
            | false =>
              have HS := Lib.hid (show full = (l ++ Lib.encodeRune (r : Int)) ++ rest s (pos + k) true false by rw [hful, hst]; simp)
              clear hst hful hll
              go_wp2_with (first | (go_at_call 80; (with_reducible refine (rd _).mono ?_); rintro e w2 ⟨rfl, rfl⟩) | (go_at_call 88; (with_reducible refine (Cn.rune cn1.out hl1 _ h0 h1).mono ?_); rintro e w4 ⟨r4, v4, rfl, c4⟩; have C4 := Lib.hid c4; clear c4))
              go_roundw
              case rel => exact ⟨pos + k, true, false, v4, _, rfl, rfl, C4.out, HS.out⟩
              case measure => exact HM.out _ _ _ C4.out
            | true =>
              have HS := Lib.hid (show full = ((l ++ [46]) ++ Lib.encodeRune (r : Int)) ++ rest s (pos + k) true true by rw [hful, hst]; simp)
              clear hst hful hll
              go_wp2_with (first | (go_at_call 80; (with_reducible refine (rd _).mono ?_); rintro e w2 ⟨rfl, rfl⟩) | (go_at_call 87; (with_reducible refine (Cn.point cn1.out hl1).mono ?_); rintro e w3 ⟨r3, v3, rfl, c3⟩; have C3 := Lib.hid c3; clear c3) | (go_at_call 88; (with_reducible refine (Cn.rune C3.out hl2 _ h0 h1).mono ?_); rintro e w4 ⟨r4, v4, rfl, c4⟩; have C4 := Lib.hid c4; clear c4))
              go_roundw
              case rel => exact ⟨pos + k, true, true, v4, _, rfl, rfl, C4.out, HS.out⟩
              case measure => exact HM.out _ _ _ C4.out
          | true =>
            cases d with
            | false =>
              have HS := Lib.hid (show full = ((l ++ [46]) ++ Lib.encodeRune (r : Int)) ++ rest s (pos + k) true false by rw [hful, hst]; simp)
              clear hst hful hll
              go_wp2_with (first | (go_at_call 80; (with_reducible refine (rd _).mono ?_); rintro e w2 ⟨rfl, rfl⟩) | (go_at_call 87; (with_reducible refine (Cn.point cn1.out hl1).mono ?_); rintro e w3 ⟨r3, v3, rfl, c3⟩; have C3 := Lib.hid c3; clear c3) | (go_at_call 88; (with_reducible refine (Cn.rune C3.out hl2 _ h0 h1).mono ?_); rintro e w4 ⟨r4, v4, rfl, c4⟩; have C4 := Lib.hid c4; clear c4))
              go_roundw
              case rel => exact ⟨pos + k, true, false, v4, _, rfl, rfl, C4.out, HS.out⟩
              case measure => exact HM.out _ _ _ C4.out
            | true =>
              have HS := Lib.hid (show full = (l ++ Lib.encodeRune (r : Int)) ++ rest s (pos + k) true true by rw [hful, hst]; simp)
              clear hst hful hll
              go_wp2_with (first | (go_at_call 80; (with_reducible refine (rd _).mono ?_); rintro e w2 ⟨rfl, rfl⟩) | (go_at_call 88; (with_reducible refine (Cn.rune cn1.out hl1 _ h0 h1).mono ?_); rintro e w4 ⟨r4, v4, rfl, c4⟩; have C4 := Lib.hid c4; clear c4))
              go_roundw
              case rel => exact ⟨pos + k, true, true, v4, _, rfl, rfl, C4.out, HS.out⟩
              case measure => exact HM.out _ _ _ C4.out
    · have hnx : ∀ ty, (Instr.next (.pointer (some ⟨w.heap.size + 1, 0, none⟩)) true ty).run Tryz.prog wr = _ := fun ty => Lib.run_next_end_at wr (w.heap.size + 1) s pos ty hit hlt
      have HE := Lib.hid (show full = l by rw [hful, rest_end s pos cp pd hlt, List.append_nil])
      have CN := Lib.hid hcn
      clear hful hcn hit
      go_wp2_with (go_at_call 89; (with_reducible refine (Cn.str CN.out).mono ?_); rintro e w1 ⟨rfl, hb⟩)
      go_ret
      exact ⟨by rw [HE.out]; rfl, hb⟩
def semantic_canonicalizeRubyGemVersion.f (a0 : ByteArray) : Option ByteArray := if a0.size ≤ 100000000 then some ⟨(canonS a0).toArray⟩ else none
theorem semantic_canonicalizeRubyGemVersion.calls (a0 : ByteArray) (r : ByteArray) (w : World) (h : semantic_canonicalizeRubyGemVersion.f a0 = some r) :
    Calls Tryz.prog 50 #[.string a0] w fun e w' => e = .returned (.string r) ∧ Below w.heap.size w w' := by
  unfold semantic_canonicalizeRubyGemVersion.f at h
  split at h
  · next hc =>
    obtain rfl := Option.some.inj h
    exact canon_calls a0 hc w
  · exact absurd h (by simp)
end Go.Proofs.YtnbpoplomdocjaaGreatDoor.Giv

namespace Go.Proofs.YtnbpoplomdocjaaGreatDoor.Giv
open Go.RowKit Go.Proofs.YtnbpoplomdocjaaGreatDoorW.PrintWords Go.Proofs.YtnbpoplomdocjaaGreatDoorW.PrintLast Go.Proofs.YtnbpoplomdocjaaGreatDoor.Pk Go.Proofs.YtnbpoplomdocjaaGreatDoor.Ord
set_option linter.unusedVariables false
set_option linter.unusedSimpArgs false

theorem cut_app (c : UInt8) : ∀ (a b : List UInt8), (a.any (fun x => x == c)) = false → Cut.cutAt c (a ++ c :: b) = a :: Cut.cutAt c b
  | [], b, _ => by
    rw [List.nil_append]
    conv => lhs; unfold Cut.cutAt
    rw [if_pos rfl]
  | x :: a, b, h => by
    rw [List.any_cons, Bool.or_eq_false_iff] at h
    have e := cut_app c a b h.2
    have hx : ¬ x = c := by simpa using h.1
    rw [List.cons_append]
    conv => lhs; unfold Cut.cutAt
    rw [if_neg hx, e]
theorem any_next (c x : UInt8) (l : List UInt8) (f k : Nat) (hf : f ≤ k) (hk : l[k]? = some x) (h : ((l.drop f).take (k - f)).any (fun x => x == c) = false) (hx : (x == c) = false) : ((l.drop f).take (k + 1 - f)).any (fun x => x == c) = false := by
  have e : (l.drop f)[k - f]? = some x := by rw [List.getElem?_drop, show f + (k - f) = k by omega]; exact hk
  rw [show k + 1 - f = (k - f) + 1 by omega, List.take_add_one, e, List.any_append, h]
  simp [hx]
theorem cut_at (c : UInt8) (l : List UInt8) (f k : Nat) (hf : f ≤ k) (hk : l[k]? = some c) (h : ((l.drop f).take (k - f)).any (fun x => x == c) = false) : Cut.cutAt c (l.drop f) = (l.drop f).take (k - f) :: Cut.cutAt c (l.drop (k + 1)) := by
  have e : l.drop f = (l.drop f).take (k - f) ++ c :: l.drop (k + 1) := by
    have a := (List.take_append_drop (k - f) (l.drop f)).symm
    rw [List.drop_drop, show f + (k - f) = k by omega] at a
    obtain ⟨hlt, hc⟩ := List.getElem?_eq_some_iff.1 hk
    rw [List.drop_eq_getElem_cons hlt, hc] at a
    exact a
  conv => lhs; rw [e]
  exact cut_app c _ _ h
theorem cut_infoStr : (Tryz.prog.info? 9).map (fun i => (i.zero, i.size, i.bytes)) = some (some (.string ⟨#[]⟩), 1, 16) := by kernel_rfl
theorem isPoint_calls (x : Int) (w : World) : Calls Tryz.prog 71 #[.int .u8 x] w fun e w' => e = .returned (.bool (x == 46)) ∧ w' = w := by
  go_enter Tryz.func71, Tryz.ntmps71
  go_wp2
  go_ret
  exact ⟨rfl, rfl⟩
theorem cut_piece (s : ByteArray) (f k : Nat) (l : List UInt8) (e : (s.toList.drop f).take (k - f) = l) : s.extract f k = bs l := by
  rw [← e]
  exact bs_eq (ext_toList s f k)
set_option maxRecDepth 100000 in
set_option maxHeartbeats 4000000 in
theorem cut_calls (s : ByteArray) (hs : s.size ≤ 40000) (w : World) :
    Calls Tryz.prog 67 #[.string s, .func (.func 71) #[] #[]] w fun e w' => ∃ v0_ : Value, e = .returned v0_ ∧ Kd.R Kd.string 9 w' w.heap.size (fun _ => True) v0_ ((Cut.cutAt 46 s.toList).map bs) ∧ Below w.heap.size w w' := by
  obtain ⟨full, ef⟩ : ∃ x, x = (Cut.cutAt 46 s.toList).map bs := ⟨_, rfl⟩
  have lf : full.length ≤ 40001 := by
    rw [ef, List.length_map]
    have := (Cut.cutAt_sizes 46 s.toList).1
    rw [len_toList] at this
    omega
  rw [← ef]
  go_enter Tryz.func67, Tryz.ntmps67
  go_wp2_with fail
  go_loopw [5, 6, 7] (fun v5 v6 v7 wr => ∃ (f k : Nat) (out : List ByteArray), v6 = .int .i64 f ∧ v7 = .int .i64 k ∧ f ≤ k ∧ Below w.heap.size w wr ∧ Kd.R Kd.string 9 wr w.heap.size (fun _ => True) v5 out ∧ ((k ≤ s.size ∧ out ++ (Cut.cutAt 46 (s.toList.drop f)).map bs = full ∧ ((s.toList.drop f).take (k - f)).any (fun x => x == 46) = false) ∨ (k = s.size + 1 ∧ out = full))) (fun v5 v6 v7 wr => s.size + 1 - (intOf v7).toNat)
  case atStart => exact ⟨0, 0, [], rfl, rfl, Nat.le_refl _, Below.refl _ _, Kd.R_nil _ _ _ _ _, Or.inl ⟨Nat.zero_le _, by rw [List.drop_zero, List.nil_append, ef], by simp⟩⟩
  case round =>
    obtain ⟨f, k, out, rfl, rfl, hfk, hbw, ho, hq⟩ := hrel
    have BL := Aside0.mk hbw
    have BS := Aside0.mk hbw.size
    have HO := Aside0.mk ho
    rcases hq with ⟨hk, hout, hno⟩ | ⟨rfl, hout⟩
    · have lo : out.length + 1 ≤ full.length := by
        rw [← hout, List.length_append, List.length_map]
        have := List.length_pos_iff.2 (Cut.cutAt_ne 46 (s.toList.drop f))
        omega
      have lim := Aside0.mk (show (out.length + 1) * 16 ≤ 140737488355328 by omega)
      have f4 : (k : Int) ≤ (s.size : Int) := Int.ofNat_le.2 hk
      have f5 : (f : Int) ≤ (k : Int) := Int.ofNat_le.2 hfk
      have f6 : f ≤ k := hfk
      have f7 : k ≤ s.size := hk
      have wk : wrap64 ((k : Int) + 1) = ((k + 1 : Nat) : Int) := Pk.wr k (by omega)
      by_cases he : k = s.size
      · have g1 : ((k : Int) == (s.size : Int)) = true := beq_iff_eq.2 (by rw [he])
        have pc := cut_piece s f k _ (by rw [he, List.take_of_length_le (by rw [List.length_drop, len_toList]; omega)])
        have cn := (Cut.cutAt_no 46 (s.toList.drop f) (by
          rw [he, List.take_of_length_le (by rw [List.length_drop, len_toList]; omega)] at hno
          exact hno)).1
        rw [cn] at hout
        have Q := Aside0.mk (show out ++ [s.extract f k] = full by rw [pc]; exact hout)
        clear ho hbw hout hno cn pc lo
        have RF := Aside0.mk he
        clear he
        go_wp2_with (first | ((with_reducible refine gate_builtin (b := .append) (xs := #[.tmp 25, .tmp 30]) rfl ?_); at_builtin; refine Kd.R_append Kd.string (w0 := w) w.heap.size rfl (.tmp 25) (.tmp 30) 28 9 (.string ⟨#[]⟩) 16 rfl Tryz.underlying28 cut_infoStr rfl (by decide) (by omega) u5 out (s.extract f k) [.string (s.extract f k)] (fun _ => True) (fun _ => False) rfl rfl ?aP (fun _ hk => hk.elim) ?aF ?aO ?aB ?aS ?aL ?_; (case aP => exact rfl); (case aF => exact (fun _ _ => trivial)); (case aO => exact HO.out); (case aB => exact BL.out); (case aS => exact BS.out); (case aL => exact lim.out); intro v5 w5 ho hb hg hat; have HO := Aside0.mk ho; have BL2 := Aside0.mk hb; clear ho hb hg hat))
        refine ⟨⟨k + 1, k + 1, _, rfl, rfl, Nat.le_refl _, BL2.out, HO.out, Or.inr ⟨by rw [RF.out], Q.out⟩⟩, by simp only [intOf]; omega⟩
      · have hlt : k < s.size := by omega
        have g1 : ((k : Int) == (s.size : Int)) = false := beq_eq_false_iff_ne.2 (by omega)
        have h2 : (k : Int) < (s.size : Int) := Int.ofNat_lt.2 hlt
        have b := bt_nat s k hlt
        by_cases hc : s[k]'hlt = 46
        · have hc' : (s.toList)[k]? = some 46 := by rw [List.getElem?_eq_getElem (by rw [len_toList]; exact hlt), getElem_toList s k hlt, hc]
          have pc := cut_piece s f k _ rfl
          have ca := cut_at 46 s.toList f k hfk hc' hno
          rw [ca, List.map_cons, ← pc] at hout
          have Q := Aside0.mk (show (out ++ [s.extract f k]) ++ (Cut.cutAt 46 (s.toList.drop (k + 1))).map bs = full by rw [List.append_assoc]; exact hout)
          have ct : ∀ w', Calls Tryz.prog 71 #[.int .u8 46] w' fun e w'' => e = .returned (.bool true) ∧ w'' = w' := fun w' => isPoint_calls 46 w'
          clear ho hbw hout hno ca pc lo hc' b he
          go_wp2_with (first | (go_at_call 71; (with_reducible refine (ct _).mono ?_); rintro e w1 ⟨rfl, rfl⟩) | ((with_reducible refine gate_builtin (b := .append) (xs := #[.tmp 25, .tmp 30]) rfl ?_); at_builtin; refine Kd.R_append Kd.string (w0 := w) w.heap.size rfl (.tmp 25) (.tmp 30) 28 9 (.string ⟨#[]⟩) 16 rfl Tryz.underlying28 cut_infoStr rfl (by decide) (by omega) u5 out (s.extract f k) [.string (s.extract f k)] (fun _ => True) (fun _ => False) rfl rfl ?aP (fun _ hk => hk.elim) ?aF ?aO ?aB ?aS ?aL ?_; (case aP => exact rfl); (case aF => exact (fun _ _ => trivial)); (case aO => exact HO.out); (case aB => exact BL.out); (case aS => exact BS.out); (case aL => exact lim.out); intro v5 w5 ho hb hg hat; have HO := Aside0.mk ho; have BL2 := Aside0.mk hb; clear ho hb hg hat))
          refine ⟨⟨k + 1, k + 1, _, rfl, rfl, Nat.le_refl _, BL2.out, HO.out, Or.inl ⟨hlt, Q.out, by simp⟩⟩, by simp only [intOf]; omega⟩
        · have hx : ((s[k]'hlt) == (46 : UInt8)) = false := beq_eq_false_iff_ne.2 hc
          have N := Aside0.mk (any_next 46 _ s.toList f k hfk (by rw [List.getElem?_eq_getElem (by rw [len_toList]; exact hlt), getElem_toList s k hlt]) hno hx)
          have Q := Aside0.mk hout
          have bn : (((s[k]'hlt).toNat : Int) == 46) = false := by
            refine beq_eq_false_iff_ne.2 (fun h => hc (UInt8.toNat_inj.1 ?_))
            have : (s[k]'hlt).toNat = 46 := by omega
            exact this
          have ct : ∀ w', Calls Tryz.prog 71 #[.int .u8 (((s[k]'hlt).toNat : Nat) : Int)] w' fun e w'' => e = .returned (.bool false) ∧ w'' = w' := fun w' => (isPoint_calls (((s[k]'hlt).toNat : Nat) : Int) w').mono (by rintro e w2 ⟨rfl, rfl⟩; rw [bn]; exact ⟨rfl, rfl⟩)
          clear ho hbw hout hno lo bn hx b he
          go_wp2_with (first | (go_at_call 71; (with_reducible refine (ct _).mono ?_); rintro e w1 ⟨rfl, rfl⟩))
          refine ⟨⟨f, k + 1, _, rfl, rfl, Nat.le_succ_of_le hfk, BL.out, HO.out, Or.inl ⟨hlt, Q.out, N.out⟩⟩, by simp only [intOf]; omega⟩
    · have f4 : ¬ ((s.size + 1 : Nat) : Int) ≤ (s.size : Int) := by omega
      rw [hout, ef] at ho
      have HO := Aside0.mk ho
      clear ho hbw
      go_wp2_with fail
      go_ret
      exact ⟨_, rfl, HO.out, BL.out⟩
def spec_cut_isPoint.f (a0 : ByteArray) : Option (List ByteArray) := if a0.size ≤ 40000 then some ((Cut.cutAt 46 a0.toList).map bs) else none
theorem spec_cut_isPoint.calls (a0 : ByteArray) (r : List ByteArray) (w : World) (h : spec_cut_isPoint.f a0 = some r) :
    Calls Tryz.prog 67 #[.string a0, .func (.func 71) #[] #[]] w fun e w' => ∃ v0_ : Value, e = .returned (v0_) ∧ Kd.R Kd.string 9 w' w.heap.size (fun _ => True) v0_ r ∧ Below w.heap.size w w' := by
  unfold spec_cut_isPoint.f at h
  split at h
  · next hc =>
    obtain rfl := Option.some.inj h
    exact cut_calls a0 hc w
  · exact absurd h (by simp)
end Go.Proofs.YtnbpoplomdocjaaGreatDoor.Giv

namespace Go.Proofs.YtnbpoplomdocjaaGreatDoor.Giv
open Go.RowKit Go.Proofs.YtnbpoplomdocjaaGreatDoorW.PrintWords Go.Proofs.YtnbpoplomdocjaaGreatDoorW.PrintLast Go.Proofs.YtnbpoplomdocjaaGreatDoor.Pk Go.Proofs.YtnbpoplomdocjaaGreatDoor.Ord
set_option linter.unusedVariables false
set_option linter.unusedSimpArgs false

def isNum (s : ByteArray) : Bool := (Num.parse s.toList).isSome
theorem infoStr : (Tryz.prog.info? 9).map (fun i => (i.zero, i.size, i.bytes)) = some (some (.string ⟨#[]⟩), 1, 16) := by kernel_rfl
theorem own_fresh {W : World} {base : Nat} {v : Value} {xs : List ByteArray} {ok : Nat → Prop} (h : Kd.R Kd.string 9 W base ok v xs) : ∀ k, W.heap.size ≤ k → some k ≠ v.ownBlock := by
  intro k hk e
  obtain ⟨inner, ho⟩ := Kd.R_own h
  have := own_lt ho k e.symm
  omega
theorem pair_step {W w1 : World} {base : Nat} {v2 v3 v3' : Value} {xs : List ByteArray} (h : Kd.R Kd.string 9 W base (fun k => some k ≠ v3.ownBlock) v2 xs) (hg : W.grownBy w1 v3.ownBlock) (hat : v3'.ownBlock = v3.ownBlock ∨ ∃ b, v3'.ownBlock = some b ∧ W.heap.size ≤ b) :
    Kd.R Kd.string 9 w1 base (fun k => some k ≠ v3'.ownBlock) v2 xs := by
  refine Kd.R_mono (Kd.R_grown (Kd.R_bound h) hg (fun k hk => hk.1)) ?_
  rintro k ⟨h1, h2, h3, _⟩
  rcases hat with e | ⟨b, e, hb⟩
  · rw [e]; exact h1
  · rw [e]
    intro he
    have := Option.some.inj he
    omega
theorem tw_snoc {α : Type} (p : α → Bool) : ∀ (l : List α) (x : α), ((l ++ [x]).takeWhile p = if (l.dropWhile p) = [] ∧ p x = true then l.takeWhile p ++ [x] else l.takeWhile p) ∧ ((l ++ [x]).dropWhile p = if (l.dropWhile p) = [] ∧ p x = true then [] else l.dropWhile p ++ [x])
  | [], x => by
    by_cases h : p x = true
    · simp [h]
    · simp [h]
  | y :: l, x => by
    obtain ⟨a, b⟩ := tw_snoc p l x
    by_cases h : p y = true
    · simp only [List.cons_append, List.takeWhile_cons_of_pos h, List.dropWhile_cons_of_pos h, a, b]
      refine ⟨?_, trivial⟩
      split <;> simp
    · simp only [List.cons_append, List.takeWhile_cons_of_neg h, List.dropWhile_cons_of_neg h]
      simp
set_option maxRecDepth 100000 in
set_option maxHeartbeats 4000000 in
theorem group_calls (l : List ByteArray) (A0 : Option Addr) (c0 : Nat) (w : World) (hr0 : Kd.C Kd.string w A0 l.length l) (hc0 : l.length ≤ c0) (ha : fit l = true) (hL : Laid w) :
    Calls Tryz.prog 85 #[.slice A0 l.length c0] w fun e w' => ∃ v0_ v1_ : Value, e = .returned (.tuple #[v0_, v1_]) ∧ Kd.R Kd.string 9 w' w.heap.size (fun k_ => some k_ ≠ (v1_ : Value).ownBlock) v0_ (l.takeWhile isNum) ∧ Kd.R Kd.string 9 w' w.heap.size (fun k_ => some k_ ≠ (v0_ : Value).ownBlock) v1_ (l.dropWhile isNum) ∧ Below w.heap.size w w' := by
  have HR0 := Aside0.mk hr0
  have HL := Aside0.mk hL
  have la := fit_len ha
  clear hr0 hL
  go_enter Tryz.func85, Tryz.ntmps85
  go_wp2_with fail
  go_loopw [2, 3, 10] (fun v2 v3 v10 wr => ∃ k : Nat, v10 = .int .i64 k ∧ k ≤ l.length ∧ Below w.heap.size w wr ∧ Kd.R Kd.string 9 wr w.heap.size (fun q => some q ≠ v3.ownBlock) v2 ((l.take k).takeWhile isNum) ∧ Kd.R Kd.string 9 wr w.heap.size (fun q => some q ≠ v2.ownBlock) v3 ((l.take k).dropWhile isNum)) (fun v2 v3 v10 wr => l.length - (intOf v10).toNat)
  case atStart => exact ⟨0, rfl, Nat.zero_le _, Below.refl _ _, Kd.R_nil _ _ _ _ _, Kd.R_nil _ _ _ _ _⟩
  case round =>
    obtain ⟨k, rfl, hk, hbw, hn, hb⟩ := hrel
    have BL := Aside0.mk hbw
    have BS := Aside0.mk hbw.size
    by_cases hlt : k < l.length
    · obtain ⟨ad, rfl, cl0⟩ := Kd.at_string HR0.out (k : Int) (by omega) (by omega)
      have hxs := fit_get ha k hlt
      rw [rdOf_nat _ _ k hlt, Int.toNat_natCast] at cl0
      have tk := List.take_succ_eq_append_getElem hlt
      obtain ⟨x, ex⟩ : ∃ x, x = l[k]'hlt := ⟨_, rfl⟩
      rw [← ex] at hxs cl0 tk
      have cellx := pw_cell_below hbw cl0
      obtain ⟨s1, s2⟩ := tw_snoc isNum (l.take k) x
      rw [← tk] at s1 s2
      obtain ⟨bld, eb⟩ : ∃ b, b = (l.take k).dropWhile isNum := ⟨_, rfl⟩
      obtain ⟨nums, en⟩ : ∃ b, b = (l.take k).takeWhile isNum := ⟨_, rfl⟩
      have ln : nums.length + 1 ≤ 100001 := by
        have := List.Sublist.length_le (List.takeWhile_sublist isNum (l := l.take k))
        rw [en]
        rw [List.length_take] at this
        omega
      have lb : bld.length + 1 ≤ 100001 := by
        have := List.Sublist.length_le (List.dropWhile_sublist isNum (l := l.take k))
        rw [eb]
        rw [List.length_take] at this
        omega
      rw [← eb] at hb s1 s2
      rw [← en] at hn s1
      obtain ⟨A3, c3, rfl⟩ := Kd.R_slice hb
      have wk : wrap64 ((k : Int) + 1) = ((k + 1 : Nat) : Int) := Pk.wr k (by omega)
      have f4 : (k : Int) < (l.length : Int) := Int.ofNat_lt.2 hlt
      have kn : k + 1 ≤ l.length := hlt
      have HB := Aside0.mk hb
      have HN := Aside0.mk hn
      by_cases hz : bld = []
      · subst hz
        have hb0 : Kd.R Kd.string 9 wr w.heap.size (fun q => some q ≠ u2.ownBlock) (.slice A3 0 c3) [] := hb
        have HB := Aside0.mk hb0
        have HN := Aside0.mk (show Kd.R Kd.string 9 wr w.heap.size (fun q => some q ≠ (Value.slice A3 0 c3).ownBlock) u2 nums from hn)
        have e00 : (([] : List ByteArray).length) = 0 := rfl
        simp only [e00]
        have lim := Aside0.mk (show (nums.length + 1) * 16 ≤ 140737488355328 by omega)
        cases hp : Num.parse x.toList with
        | some p =>
          have cx := fun (w' : World) (hb' : Below w.heap.size w w') => conv_some x w' p hxs (HL.out.below hb') hp
          have nx : isNum x = true := by unfold isNum; rw [hp]; rfl
          rw [if_pos ⟨rfl, nx⟩] at s1 s2
          have S1 := Aside0.mk s1
          have S2 := Aside0.mk s2
          clear s1 s2 tk ex eb en hn hb hb0 hbw hp nx ha la ln lb hlt cl0 e00
          go_wp2_with (first | (go_at_call 40; (with_reducible refine (cx _ BL.out).mono ?_); rintro e w1 ⟨bx, rfl, q1, d1⟩; have BL1 := Aside0.mk (below_then BL.out BS.out d1); have BS1 := Aside0.mk (Nat.le_trans BS.out d1.size); have HN1 := Aside0.mk (Kd.R_below HN.out d1); have HB1 := Aside0.mk (Kd.R_below HB.out d1); clear d1 q1) | ((with_reducible refine gate_builtin (b := .append) (xs := #[.tmp 30, .tmp 32]) rfl ?_); at_builtin; refine Kd.R_append Kd.string (w0 := w) w.heap.size rfl (.tmp 30) (.tmp 32) 28 9 (.string ⟨#[]⟩) 16 rfl Tryz.underlying28 infoStr rfl (by decide) (by omega) u2 nums x [.string x] (fun q => some q ≠ ((.slice A3 0 c3 : Value) : Value).ownBlock) (fun _ => False) rfl rfl ?aP (fun _ hk => hk.elim) ?aF ?aO ?aB ?aS ?aL ?_; (case aP => exact rfl); (case aF => exact own_fresh HB1.out); (case aO => exact HN1.out); (case aB => exact BL1.out); (case aS => exact BS1.out); (case aL => exact lim.out); intro v5 w5 ho hb hg hat; have HO := Aside0.mk ho; have HP := Aside0.mk (pair_step HB1.out hg hat); have BL2 := Aside0.mk hb; clear ho hb hg hat))
          rw [wk]
          refine ⟨⟨k + 1, rfl, kn, BL2.out, ?_, ?_⟩, by simp only [intOf]; omega⟩
          · rw [S1.out]
            exact HO.out
          · rw [S2.out]
            exact HP.out
        | none =>
          have cx := fun (w' : World) (hb' : Below w.heap.size w w') => conv_none x w' hxs (HL.out.below hb') hp
          have nx : isNum x = false := by unfold isNum; rw [hp]; rfl
          rw [if_neg (fun h => by rw [nx] at h; exact absurd h.2 (by simp))] at s1 s2
          have S1 := Aside0.mk s1
          have S2 := Aside0.mk s2
          have lim := Aside0.mk (show (([] : List ByteArray).length + 1) * 16 ≤ 140737488355328 by decide)
          clear s1 s2 tk ex eb en hn hb hb0 hbw hp nx ha la ln lb hlt cl0 e00
          go_wp2_with (first | (go_at_call 40; (with_reducible refine (cx _ BL.out).mono ?_); rintro e w1 ⟨er, rfl, d1⟩; have BL1 := Aside0.mk (below_then BL.out BS.out d1); have BS1 := Aside0.mk (Nat.le_trans BS.out d1.size); have HN1 := Aside0.mk (Kd.R_below HN.out d1); have HB1 := Aside0.mk (Kd.R_below HB.out d1); clear d1) | ((with_reducible refine gate_builtin (b := .append) (xs := #[.tmp 26, .tmp 28]) rfl ?_); at_builtin; refine Kd.R_append Kd.string (w0 := w) w.heap.size rfl (.tmp 26) (.tmp 28) 28 9 (.string ⟨#[]⟩) 16 rfl Tryz.underlying28 infoStr rfl (by decide) (by omega) (.slice A3 0 c3) ([] : List ByteArray) x [.string x] (fun q => some q ≠ (u2 : Value).ownBlock) (fun _ => False) rfl rfl ?aP (fun _ hk => hk.elim) ?aF ?aO ?aB ?aS ?aL ?_; (case aP => exact rfl); (case aF => exact own_fresh HN1.out); (case aO => exact HB1.out); (case aB => exact BL1.out); (case aS => exact BS1.out); (case aL => exact lim.out); intro v5 w5 ho hb hg hat; have HO := Aside0.mk ho; have HP := Aside0.mk (pair_step HN1.out hg hat); have BL2 := Aside0.mk hb; clear ho hb hg hat))
          rw [wk]
          refine ⟨⟨k + 1, rfl, kn, BL2.out, ?_, ?_⟩, by simp only [intOf]; omega⟩
          · rw [S1.out]
            exact HP.out
          · rw [S2.out]
            exact HO.out
      · rw [if_neg (fun h => hz h.1)] at s1 s2
        have lim := Aside0.mk (show (bld.length + 1) * 16 ≤ 140737488355328 by omega)
        have lp : 0 < bld.length := List.length_pos_iff.2 hz
        obtain ⟨m, em⟩ : ∃ m, m = bld.length := ⟨_, rfl⟩
        rw [← em] at hb hn HB HN lp ⊢
        have g1 : decide ((m : Int) > 0) = true := decide_eq_true (by omega)
        have g2 : decide (0 < (m : Int)) = true := decide_eq_true (by omega)
        have g3 : decide (0 < m) = true := decide_eq_true lp
        have S1 := Aside0.mk s1
        have S2 := Aside0.mk s2
        cases hp : Num.parse x.toList with
        | some p =>
          have cx := fun (w' : World) (hb' : Below w.heap.size w w') => conv_some x w' p hxs (HL.out.below hb') hp
          clear s1 s2 tk ex eb en hn hb hbw hp ha la ln lb hlt cl0 em hz
          go_wp2_with (first | (go_at_call 40; (with_reducible refine (cx _ BL.out).mono ?_); rintro e w1 ⟨bx, rfl, q1, d1⟩; have BL1 := Aside0.mk (below_then BL.out BS.out d1); have BS1 := Aside0.mk (Nat.le_trans BS.out d1.size); have HN1 := Aside0.mk (Kd.R_below HN.out d1); have HB1 := Aside0.mk (Kd.R_below HB.out d1); clear d1 q1) | ((with_reducible refine gate_builtin (b := .append) (xs := #[.tmp 26, .tmp 28]) rfl ?_); at_builtin; refine Kd.R_append Kd.string (w0 := w) w.heap.size rfl (.tmp 26) (.tmp 28) 28 9 (.string ⟨#[]⟩) 16 rfl Tryz.underlying28 infoStr rfl (by decide) (by omega) (.slice A3 m c3) bld x [.string x] (fun q => some q ≠ (u2 : Value).ownBlock) (fun _ => False) rfl rfl ?aP (fun _ hk => hk.elim) ?aF ?aO ?aB ?aS ?aL ?_; (case aP => exact rfl); (case aF => exact own_fresh HN1.out); (case aO => exact HB1.out); (case aB => exact BL1.out); (case aS => exact BS1.out); (case aL => exact lim.out); intro v5 w5 ho hb hg hat; have HO := Aside0.mk ho; have HP := Aside0.mk (pair_step HN1.out hg hat); have BL2 := Aside0.mk hb; clear ho hb hg hat))
          rw [wk]
          refine ⟨⟨k + 1, rfl, kn, BL2.out, ?_, ?_⟩, by simp only [intOf]; omega⟩
          · rw [S1.out]
            exact HP.out
          · rw [S2.out]
            exact HO.out
        | none =>
          have cx := fun (w' : World) (hb' : Below w.heap.size w w') => conv_none x w' hxs (HL.out.below hb') hp
          clear s1 s2 tk ex eb en hn hb hbw hp ha la ln lb hlt cl0 em hz
          go_wp2_with (first | (go_at_call 40; (with_reducible refine (cx _ BL.out).mono ?_); rintro e w1 ⟨er, rfl, d1⟩; have BL1 := Aside0.mk (below_then BL.out BS.out d1); have BS1 := Aside0.mk (Nat.le_trans BS.out d1.size); have HN1 := Aside0.mk (Kd.R_below HN.out d1); have HB1 := Aside0.mk (Kd.R_below HB.out d1); clear d1) | ((with_reducible refine gate_builtin (b := .append) (xs := #[.tmp 26, .tmp 28]) rfl ?_); at_builtin; refine Kd.R_append Kd.string (w0 := w) w.heap.size rfl (.tmp 26) (.tmp 28) 28 9 (.string ⟨#[]⟩) 16 rfl Tryz.underlying28 infoStr rfl (by decide) (by omega) (.slice A3 m c3) bld x [.string x] (fun q => some q ≠ (u2 : Value).ownBlock) (fun _ => False) rfl rfl ?aP (fun _ hk => hk.elim) ?aF ?aO ?aB ?aS ?aL ?_; (case aP => exact rfl); (case aF => exact own_fresh HN1.out); (case aO => exact HB1.out); (case aB => exact BL1.out); (case aS => exact BS1.out); (case aL => exact lim.out); intro v5 w5 ho hb hg hat; have HO := Aside0.mk ho; have HP := Aside0.mk (pair_step HN1.out hg hat); have BL2 := Aside0.mk hb; clear ho hb hg hat))
          rw [wk]
          refine ⟨⟨k + 1, rfl, kn, BL2.out, ?_, ?_⟩, by simp only [intOf]; omega⟩
          · rw [S1.out]
            exact HP.out
          · rw [S2.out]
            exact HO.out
    · have e : k = l.length := by omega
      subst e
      rw [List.take_length] at hn hb
      have f4 : ¬ (l.length : Int) < (l.length : Int) := by omega
      have HN := Aside0.mk hn
      have HB := Aside0.mk hb
      clear hn hb hbw
      go_wp2_with fail
      exact bodyPost_ret (results_list (rs := [.tmp 2, .tmp 3]) rfl (by simp) (.tmp (.tmp .nil))) rfl ⟨_, _, rfl, HN.out, HB.out, BL.out⟩
def semantic_groupSegments.f (l0 : List ByteArray) : Option (List ByteArray × List ByteArray) := if fit l0 = true then some (l0.takeWhile isNum, l0.dropWhile isNum) else none
theorem semantic_groupSegments.calls (A0 : Option Addr) (c0 : Nat) (l0 : List ByteArray) (r1 : List ByteArray) (r2 : List ByteArray) (w : World) (hr0 : Kd.C Kd.string w A0 l0.length l0) (hc0 : l0.length ≤ c0) (h : semantic_groupSegments.f l0 = some (r1, r2)) (hL : Laid w) :
    Calls Tryz.prog 85 #[.slice A0 l0.length c0] w fun e w' => ∃ v0_ v1_ : Value, e = .returned (.tuple #[v0_, v1_]) ∧ Kd.R Kd.string 9 w' w.heap.size (fun k_ => some k_ ≠ (v1_ : Value).ownBlock) v0_ r1 ∧ Kd.R Kd.string 9 w' w.heap.size (fun k_ => some k_ ≠ (v0_ : Value).ownBlock) v1_ r2 ∧ Below w.heap.size w w' := by
  unfold semantic_groupSegments.f at h
  split at h
  · next hc =>
    obtain ⟨rfl, rfl⟩ := Prod.mk.inj (Option.some.inj h)
    exact group_calls l0 A0 c0 w hr0 hc0 hc hL
  · exact absurd h (by simp)
end Go.Proofs.YtnbpoplomdocjaaGreatDoor.Giv

namespace Go.Proofs.YtnbpoplomdocjaaGreatDoor.Giv
open Go.RowKit
set_option linter.unusedVariables false

theorem run_assert_is {P : Program} {t : TypeId} {fs : Array Field} (h : P.underlying t = some (.struct fs)) (xT : TypeId) (v : Value) (w : World) : (Instr.typeAssert (.iface t v) xT t true).run P w = .ok (.tuple #[v, .bool true]) w := by
  simp [Instr.typeAssert, run_underlying h, go_sem, Result.andThen]
theorem run_nil_nil {P : Program} {ti : TypeId} {ms : Array (String × TypeId)} (hi : P.underlying ti = some (.interface ms)) (w : World) : (binOp .eql ti .nilIface .nilIface).run P w = .ok (.bool true) w := by
  have h : ∀ d : Nat, (Op.equalIn (d + 1) ti .nilIface .nilIface).run P w = .ok true w := fun d => by simp [Op.equalIn, run_underlying hi]
  simp only [binOp]
  simp [show Op.equal ti .nilIface .nilIface = Op.equalIn (9999 + 1) ti .nilIface .nilIface from rfl, h]
theorem bel_drewN {B : Nat} {a w : World} (h : Below B a w) (n : Nat) : Below B a (w.drewN n) := ⟨h.os, h.tape, h.output, h.size, h.block⟩
end Go.Proofs.YtnbpoplomdocjaaGreatDoor.Giv

namespace Go.Proofs.YtnbpoplomdocjaaGreatDoor.Giv
set_option linter.unusedVariables false

def cutZ (l : List ByteArray) : Nat → Nat
  | 0 => 0
  | n + 1 => if (l.getD n ⟨#[]⟩).toList = [48] then cutZ l n else n + 1
def trimZ (l : List ByteArray) : List ByteArray := l.take (cutZ l l.length)
theorem trimZ_len (l : List ByteArray) : (trimZ l).length ≤ l.length := by
  unfold trimZ
  rw [List.length_take]
  omega
theorem trimZ_mem {l : List ByteArray} {x : ByteArray} (h : x ∈ trimZ l) : x ∈ l := List.mem_of_mem_take h
end Go.Proofs.YtnbpoplomdocjaaGreatDoor.Giv
