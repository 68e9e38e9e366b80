/- Contracts by hand: strings.Builder, with frames that name what stays: everything but the builder's own block and its own row. -/
import Derived.Test.YtehlakaccgccbaaDoorShelf
import Derived.WalkKit
import Derived.BigCall
import Derived.Lib.OthersKept
import Derived.Lib.FrozenHead2
import Derived.Lib.UnsafeStr
import Derived.Lib.Builder
import Derived.Laws.Externs
import Derived.Lib.Hide
namespace Go.Proofs.YtehlakaccgccbaaDoor.Giv
open Go.RowKit
set_option linter.unusedSimpArgs false
set_option linter.unusedVariables false

/-- The blocks of w outside S stand in w'. -/
structure Fr (S : Nat → Prop) (w w' : World) : Prop where
  os : w'.os = w.os
  tape : w'.tape = w.tape
  output : w'.output = w.output
  size : w.heap.size ≤ w'.heap.size
  block : ∀ k, k < w.heap.size → ¬ S k → w'.heap[k]? = w.heap[k]?
namespace Fr
variable {S : Nat → Prop} {a w w' : World}
theorem refl (S : Nat → Prop) (w : World) : Fr S w w := ⟨rfl, rfl, rfl, Nat.le_refl _, fun _ _ _ => rfl⟩
theorem trans {b : World} (h : Fr S a b) (k : Fr S b w) : Fr S a w :=
  ⟨k.os.trans h.os, k.tape.trans h.tape, k.output.trans h.output, Nat.le_trans h.size k.size, fun i hi hS => (k.block i (by have := h.size; omega) hS).trans (h.block i hi hS)⟩
theorem drew (h : Fr S a w) : Fr S a w.drew := ⟨h.os, h.tape, h.output, h.size, h.block⟩
theorem alloc (h : Fr S a w) (o : Obj) : Fr S a (w.alloc o) := h.trans ⟨rfl, rfl, rfl, by simp, fun k hk _ => Below.heap_alloc _ _ _ hk⟩
theorem setCell (h : Fr S a w) {p : Addr} (hp : S p.block) (u : Value) : Fr S a (w.setCell p u) :=
  h.trans ⟨rfl, rfl, rfl, by simp [World.setCell], fun k _ hS => Below.heap_setCell _ _ _ _ (fun e => hS (e ▸ hp))⟩
theorem grown {row : Option Nat} (h : Fr S a w) (hg : w.grownBy w' row) (hr : ∀ k, row = some k → S k) : Fr S a w' :=
  h.trans ⟨hg.os, hg.tape, hg.output, hg.size, fun k hk hS => hg.block k hk (fun e => hS (hr k e.symm))⟩
theorem freeze (h : Fr S a w) {p : Addr} (hp : S p.block) (n : Nat) : Fr S a (w.freeze p n) := by
  refine h.trans ?_
  unfold World.freeze
  split
  · exact refl S w
  · exact ⟨rfl, rfl, rfl, by simp, fun k _ hS => by
      simp only [Array.getElem?_modify]
      rw [if_neg (fun (e : p.block = k) => hS (e ▸ hp))]⟩
theorem mono {S' : Nat → Prop} (h : Fr S a w) (hs : ∀ k, S k → S' k) : Fr S' a w := ⟨h.os, h.tape, h.output, h.size, fun k hk hS => h.block k hk (fun e => hS (hs k e))⟩
theorem below (h : Fr S a w) {B : Nat} (hB : B ≤ a.heap.size) (hS : ∀ k, S k → B ≤ k) : Below B a w :=
  ⟨h.os, h.tape, h.output, h.size, fun k hk => h.block k (by omega) (fun e => by have := hS k e; omega)⟩
theorem of_below {B : Nat} (h : Below B a w) : Fr (fun k => B ≤ k) a w := ⟨h.os, h.tape, h.output, h.size, fun k _ hS => h.block k (by omega)⟩
end Fr

/-- A builder in block b, its bytes in the row that v leads to, which lies from base on. -/
def BV (b base : Nat) (v : Value) (bs : List Value) (w : World) : Prop :=
  (∃ p, (p = Value.pointer none ∨ p = .pointer (some ⟨b, 0, none⟩)) ∧ w.heap[b]? = some (.cells #[p, v] 58 (0, 0))) ∧ w.ownsRowF base 5 1 v bs.length bs
/-- What a writing method may turn. -/
def BS (b : Nat) (v : Value) (k : Nat) : Prop := k = b ∨ v.ownBlock = some k
theorem BV.fresh (w : World) (base : Nat) : BV w.heap.size base (.slice none 0 0) [] (w.alloc (.cells #[.pointer none, .slice none 0 0] 58)) :=
  ⟨⟨_, .inl rfl, heap_alloc_new _ _⟩, World.ownsRowF_nil _ _ _ _⟩
theorem BV.slice {b base : Nat} {v : Value} {bs : List Value} {w : World} (h : BV b base v bs w) : ∃ ao cap, v = .slice ao bs.length cap := by
  rcases h.2.2 with ⟨hv, h0⟩ | ⟨g, cap, cur, fz, hv, _⟩
  · exact ⟨none, 0, by rw [hv, h0]⟩
  · exact ⟨_, _, hv⟩
theorem BV.ne {b base : Nat} {v : Value} {bs : List Value} {w : World} (h : BV b base v bs w) : v.ownBlock ≠ some b := by
  obtain ⟨⟨p, _, hb⟩, hown⟩ := h
  intro e
  rcases hown.2 with ⟨rfl, _⟩ | ⟨g, cap, cur, fz, rfl, _, hg, _⟩
  · simp [Value.ownBlock] at e
  · have : g = b := by simpa [Value.ownBlock] using e
    subst this
    rw [hg] at hb
    injection hb with hb
    injection hb with _ hb
    exact absurd hb (by decide)
theorem BV.lt {b base : Nat} {v : Value} {bs : List Value} {w : World} (h : BV b base v bs w) : b < w.heap.size := by
  obtain ⟨⟨p, _, hb⟩, _⟩ := h
  rcases Nat.lt_or_ge b w.heap.size with h' | h'
  · exact h'
  · simp [Array.getElem?_eq_none h'] at hb
/-- Over a step that turns neither its block nor its row. -/
theorem BV.kept {S : Nat → Prop} {b base : Nat} {v : Value} {bs : List Value} {w w' : World} (h : BV b base v bs w) (f : Fr S w w') (hb : ¬ S b) (hr : ∀ k, v.ownBlock = some k → ¬ S k) : BV b base v bs w' := by
  have hlt := h.lt
  obtain ⟨⟨p, hp, hh⟩, h1, h2⟩ := h
  refine ⟨⟨p, hp, (f.block b hlt hb).trans hh⟩, h1, ?_⟩
  rcases h2 with h2 | ⟨g, cap, cur, fz, rfl, hg, hh', r⟩
  · exact .inl h2
  · have hgl : g < w.heap.size := by
      rcases Nat.lt_or_ge g w.heap.size with h' | h'
      · exact h'
      · simp [Array.getElem?_eq_none h'] at hh'
    exact .inr ⟨g, cap, cur, fz, rfl, hg, (f.block g hgl (hr g (by simp [Value.ownBlock]))).trans hh', r⟩

theorem sizeBuilder : (Tryd.prog.info? 58).map (·.size) = some 2 := by kernel_rfl
theorem liesBuilder : liesAt Tryd.prog Tryd.prog.depth 58 (2 / Tryd.prog.cellsOf 58) 0 58 1 = true := by kernel_rfl

set_option maxHeartbeats 1000000 in
set_option maxRecDepth 100000 in
theorem copyCheck_used (b : Nat) (w : World) (h0 : w.cell? ⟨b, 0, none⟩ = some (.pointer (some ⟨b, 0, none⟩))) :
    Calls Tryd.prog 38 #[.pointer (some ⟨b, 0, none⟩)] w fun e w' => e = .returned (.tuple #[]) ∧ w' = w := by
  obtain ⟨j, hj, _⟩ := Option.map_eq_some_iff.1 sizeBuilder
  go_enter Tryd.func38, Tryd.ntmps38
  go_wp2
  rw [Lib.run_neq_ptr_same w _ Tryd.underlying55 hj]
  go_wp2
  go_end0
  exact ⟨rfl, rfl⟩
set_option maxHeartbeats 1000000 in
set_option maxRecDepth 100000 in
theorem copyCheck_fresh (b : Nat) (w : World) (h0 : w.cell? ⟨b, 0, none⟩ = some (.pointer none)) (hsh : w.shape? b = some (58, 2)) (hfz : w.frozen? ⟨b, 0, none⟩ = false) :
    Calls Tryd.prog 38 #[.pointer (some ⟨b, 0, none⟩)] w fun e w' => e = .returned (.tuple #[]) ∧ w' = w.setCell ⟨b, 0, none⟩ (.pointer (some ⟨b, 0, none⟩)) := by
  obtain ⟨j, hj, hjs⟩ := Option.map_eq_some_iff.1 sizeBuilder
  go_enter Tryd.func38, Tryd.ntmps38
  go_wp2
  rw [Lib.run_to_unsafe w ⟨b, 0, none⟩ Tryd.underlying55 Tryd.underlying66 hj (by rw [hjs]; decide) hsh (Nat.zero_lt_succ 1)]
  simp only [Result.andThen]
  rw [Oper.upon_value]
  go_wp2
  rw [run_callFunc_extern Tryd.func42 (by kernel_rfl) (by kernel_rfl) (by kernel_rfl) (e := Extern.AbiNoEscape.same) (by kernel_rfl)]
  rw [Lib.run_noEscape]
  simp only [Result.andThen]
  rw [Oper.upon_value]
  go_wp2
  rw [Lib.run_from_unsafe w ⟨b, 0, none⟩ Tryd.underlying66 Tryd.underlying55 hj hsh liesBuilder]
  simp only [Result.andThen]
  rw [Oper.upon_value]
  go_wp2
  go_end0
  exact ⟨rfl, rfl⟩

theorem copyCheck_calls (b base : Nat) (v : Value) (bs : List Value) (w : World) (h : BV b base v bs w) :
    Calls Tryd.prog 38 #[.pointer (some ⟨b, 0, none⟩)] w fun e w' => e = .returned (.tuple #[]) ∧ w'.heap[b]? = some (.cells #[.pointer (some ⟨b, 0, none⟩), v] 58 (0, 0)) ∧ BV b base v bs w' ∧ Fr (BS b v) w w' := by
  have hne := h.ne
  have hlt := h.lt
  obtain ⟨⟨p, hp, hb⟩, hown⟩ := h
  rcases hp with rfl | rfl
  · refine (copyCheck_fresh b w (by rw [Lib.cell_of_heap hb]; rfl) (by simp [World.shape?, hb]) (Lib.frozen_of_heap hb 0)).mono ?_
    rintro e w' ⟨rfl, rfl⟩
    have hb' : (w.setCell ⟨b, 0, none⟩ (.pointer (some ⟨b, 0, none⟩))).heap[b]? = some (.cells #[.pointer (some ⟨b, 0, none⟩), v] 58 (0, 0)) := by
      simp only [World.setCell, Array.getElem?_modify, hb]
      simp
    refine ⟨rfl, hb', ⟨⟨_, .inr rfl, hb'⟩, hown.1, ?_⟩, (Fr.refl _ w).setCell (.inl rfl) _⟩
    rcases hown.2 with h2 | ⟨g, cap, cur, fz, rfl, hg, hh', r⟩
    · exact .inl h2
    · exact .inr ⟨g, cap, cur, fz, rfl, hg, (Below.heap_setCell _ _ _ _ (fun e => hne (by simp [Value.ownBlock, e]))).trans hh', r⟩
  · refine (copyCheck_used b w (by rw [Lib.cell_of_heap hb]; rfl)).mono ?_
    rintro e w' ⟨rfl, rfl⟩
    exact ⟨rfl, hb, ⟨⟨_, .inr rfl, hb⟩, hown⟩, Fr.refl _ _⟩

set_option maxHeartbeats 4000000 in
set_option maxRecDepth 100000 in
theorem writeRune_calls (b base : Nat) (v : Value) (bs : List Value) (r : Int) (hr0 : -2147483648 ≤ r) (hr1 : r ≤ 2147483647) (w : World) (h : BV b base v bs w) (hlen : bs.length + 4 ≤ 140737488355328) (hBw : base ≤ w.heap.size) :
    Calls Tryd.prog 33 #[.pointer (some ⟨b, 0, none⟩), .int .i32 r] w fun e w' => e = .returned (.tuple #[.int .i64 (Lib.runeCells r).length, .nilIface]) ∧ ∃ v', BV b base v' (bs ++ Lib.runeCells r) w' ∧ Fr (BS b v) w w' := by
  have hk4 := Lib.runeCells_le r
  have hne := h.ne
  go_enter Tryd.func33, Tryd.ntmps33
  go_wp2_with (go_at_call 38; refine (copyCheck_calls b base v bs _ h).mono ?_)
  rintro e w1 ⟨rfl, hbk, h1, hf1⟩
  have hlt := h1.lt
  obtain ⟨ao, cap, rfl⟩ := h1.slice
  obtain ⟨_, hown⟩ := h1
  have c0 : w1.cell? ⟨b, 0, none⟩ = some (.pointer (some ⟨b, 0, none⟩)) := by rw [Lib.cell_of_heap hbk]; rfl
  have c1 : w1.cell? ⟨b, 1, none⟩ = some (.slice ao bs.length cap) := by rw [Lib.cell_of_heap hbk]; rfl
  go_wp2_with (go_at_call 39; refine (Tryd.utf8_AppendRune_row base _ bs.length bs r hr0 hr1 _ hown hlen (by have := hf1.size; omega)).mono ?_)
  rintro e w2 ⟨v', rfl, hown', o, hgrow⟩
  have hb2 : w2.heap[b]? = some (.cells #[.pointer (some ⟨b, 0, none⟩), .slice ao bs.length cap] 58 (0, 0)) := by
    rw [hgrow.block b (by simp; omega) (fun e => hne e.symm), Lib.alloc_old w1 _ b hlt]
    exact hbk
  have d0 : w2.cell? ⟨b, 0, none⟩ = some (.pointer (some ⟨b, 0, none⟩)) := by rw [Lib.cell_of_heap hb2]; rfl
  have d1 : w2.cell? ⟨b, 1, none⟩ = some (.slice ao bs.length cap) := by rw [Lib.cell_of_heap hb2]; rfl
  have f1 : w2.frozen? ⟨b, 1, none⟩ = false := Lib.frozen_of_heap hb2 1
  obtain ⟨g, cap', rfl⟩ : ∃ g cap', v' = .slice (some ⟨g, 0, none⟩) (bs.length + (Lib.runeCells r).length) cap' := by
    rcases hown'.2 with ⟨_, h0⟩ | ⟨g, cap', cur, fz, hv, _⟩
    · omega
    · exact ⟨g, cap', hv⟩
  go_wp2
  go_ret2
  have hb3 : (w2.setCell ⟨b, 1, none⟩ (.slice (some ⟨g, 0, none⟩) (bs.length + (Lib.runeCells r).length) cap')).heap[b]? = some (.cells #[.pointer (some ⟨b, 0, none⟩), .slice (some ⟨g, 0, none⟩) (bs.length + (Lib.runeCells r).length) cap'] 58 (0, 0)) := by
    simp only [World.setCell, Array.getElem?_modify, hb2]
    simp
  refine ⟨?_, _, ⟨⟨_, .inr rfl, hb3⟩, by simp, ?_⟩, ((hf1.alloc o).grown hgrow (fun k e => .inr e)).setCell (.inl rfl) _⟩
  · have e : ((bs.length : Int) + ((Lib.runeCells r).length : Int) - (bs.length : Int)) = ((Lib.runeCells r).length : Int) := by omega
    simp [e]
  · rcases hown'.2 with ⟨hz, _⟩ | ⟨g2, cap2, cur, fz, hv, hg, hh', r2⟩
    · simp at hz
    · refine .inr ⟨g2, cap2, cur, fz, by simpa using hv, hg, (Below.heap_setCell _ _ _ _ (fun (e : g2 = b) => ?_)).trans hh', by simpa using r2⟩
      subst e
      rw [hb2] at hh'
      injection hh' with hb
      injection hb with _ hb
      exact absurd hb (by decide)

set_option maxHeartbeats 1000000 in
set_option maxRecDepth 100000 in
theorem len_calls (b base : Nat) (v : Value) (bs : List Value) (w : World) (h : BV b base v bs w) :
    Calls Tryd.prog 34 #[.pointer (some ⟨b, 0, none⟩)] w fun e w' => e = .returned (.int .i64 bs.length) ∧ w = w' := by
  obtain ⟨ao, cap, rfl⟩ := h.slice
  obtain ⟨⟨p, hp, hbk⟩, hown⟩ := h
  have c1 : w.cell? ⟨b, 1, none⟩ = some (.slice ao bs.length cap) := by rw [Lib.cell_of_heap hbk]; rfl
  go_enter Tryd.func34, Tryd.ntmps34
  go_wp2
  go_ret
  exact ⟨rfl, rfl⟩

theorem cellsByte : Tryd.prog.cellsOf 5 = 1 := by kernel_rfl
set_option maxHeartbeats 2000000 in
set_option maxRecDepth 100000 in
/-- String of a builder that holds something. -/
theorem string_calls (b base : Nat) (v : Value) (l : List UInt8) (w : World) (h : BV b base v (Lib.byteCells l) w) (h0 : l ≠ []) :
    Calls Tryd.prog 35 #[.pointer (some ⟨b, 0, none⟩)] w fun e w' => e = .returned (.string ⟨l.toArray⟩) ∧ Fr (BS b v) w w' := by
  obtain ⟨⟨p, hp, hbk⟩, hown⟩ := h
  have hl0 : l.length ≠ 0 := by simpa using h0
  rw [Lib.byteCells_length] at hown
  obtain ⟨g, cap, cur, fz, rfl, hbg, hg, hfz, hnc, hcm, hcs, htake⟩ : ∃ g cap cur fz, v = .slice (some ⟨g, 0, none⟩) l.length cap ∧ base ≤ g ∧ w.heap[g]? = some (.cells cur 5 fz) ∧ fz.2 ≤ l.length * 1 ∧ l.length ≤ cap ∧ cap ≤ maxLen ∧ cur.size = cap * 1 ∧ cur.toList.take (l.length * 1) = Lib.byteCells l := by
    rcases hown.2 with ⟨_, hz⟩ | ⟨g, cap, cur, fz, hv, r⟩
    · exact absurd hz hl0
    · exact ⟨g, cap, cur, fz, hv, r⟩
  have c1 : w.drew.cell? ⟨b, 1, none⟩ = some (.slice (some ⟨g, 0, none⟩) l.length cap) := by
    have : w.drew.heap[b]? = some (.cells #[p, .slice (some ⟨g, 0, none⟩) l.length cap] 58 (0, 0)) := hbk
    rw [Lib.cell_of_heap this]; rfl
  have hSD : (Builtin.unsafeSliceData_ #[56] 64 #[.slice (some ⟨g, 0, none⟩) l.length cap]).run Tryd.prog w.drew = .ok (.pointer (some ⟨g, 0, none⟩)) w.drew :=
    Lib.run_unsafeSliceData_row _ _ _ _ _ _ (by omega)
  have hUS : (Builtin.unsafeString_ #[64, 3] 9 #[.pointer (some ⟨g, 0, none⟩), .int .i64 l.length]).run Tryd.prog w.drew = .ok (.string ⟨l.toArray⟩) (w.drew.freeze ⟨g, 0, none⟩ l.length) := by
    refine Lib.run_unsafeString_row w.drew 64 3 9 5 Tryd.underlying64 cellsByte g cur.size (by have hg' : w.drew.heap[g]? = some (.cells cur 5 fz) := hg; simp [World.shape?, hg']) l h0 (by omega) (by unfold maxLen at hcm; omega) ?_
    intro j x hx
    have := hown.cells (g := g) rfl j (.int .u8 x.toNat) (by simp [Lib.byteCells, hx])
    exact this
  go_enter Tryd.func35, Tryd.ntmps35
  go_wp2
  go_region
  all_goals (go_wp2; go_ret; exact ⟨rfl, ((Fr.refl _ w).drew).freeze (.inr rfl) _⟩)
end Go.Proofs.YtehlakaccgccbaaDoor.Giv
