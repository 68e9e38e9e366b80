/- Contracts by hand: strings.Builder, with frames that name what stays: everything but the builder's own block and its own row.
   Contract by hand: (*strings.Builder).WriteString.
   Contract by hand: (*strings.Builder).grow of a builder without a buffer.
   Contracts by hand: a builder that is grown ahead, and a byte written to it.
   Contracts by hand: strings.ToLower of texts of bytes below 128.
   Contract by hand: spec.lower: a text with small letters in the place of great ones.
   Contract by hand: a text cut at points (the function is handed in).
   Contracts by hand: the place of a byte; the identifiers behind a version's numbers.
   What the contracts over the interface Version have in common. -/
import Derived.Test.YtdpeadckejhloaaGreatDoorShelf
import Derived.WalkKit
import Derived.BigCall
import Derived.Lib.OthersKept
import Derived.Lib.FrozenHead2
import Derived.Lib.UnsafeStr
import Derived.Lib.Builder
import Derived.Laws.Externs
import Derived.Lib.Hide
import Derived.Lib.FrozenHead
import Derived.Lib.AppendStr
import Derived.Lib.RuneBytes
import Derived.Lib.MakeNoZero
import Derived.Lib.Case
import Derived.Laws.IdiomCopy
import Derived.Test.YtdpeadckejhloaaGreatDoorZD
import Derived.Test.YtdpeadckejhloaaGreatDoorWMore
import Derived.Lib.ConvBytes
import Derived.Test.YtdpeadckejhloaaGreatDoorZE
import Derived.Test.YtdpeadckejhloaaGreatDoorZY
import Derived.Deep.QuietTactic
import Derived.BigQuiet
namespace Go.Proofs.YtdpeadckejhloaaGreatDoor.Giv
open Go.RowKit
set_option linter.unusedSimpArgs false
set_option linter.unusedVariables false

/-- The blocks of w outside S stand in w'. -/
structure Fr (S : Nat → Prop) (w w' : World) : Prop where
  os : w'.os = w.os
  tape : w'.tape = w.tape
  output : w'.output = w.output
  size : w.heap.size ≤ w'.heap.size
  block : ∀ k, k < w.heap.size → ¬ S k → w'.heap[k]? = w.heap[k]?
namespace Fr
variable {S : Nat → Prop} {a w w' : World}
theorem refl (S : Nat → Prop) (w : World) : Fr S w w := ⟨rfl, rfl, rfl, Nat.le_refl _, fun _ _ _ => rfl⟩
theorem trans {b : World} (h : Fr S a b) (k : Fr S b w) : Fr S a w :=
  ⟨k.os.trans h.os, k.tape.trans h.tape, k.output.trans h.output, Nat.le_trans h.size k.size, fun i hi hS => (k.block i (by have := h.size; omega) hS).trans (h.block i hi hS)⟩
theorem drew (h : Fr S a w) : Fr S a w.drew := ⟨h.os, h.tape, h.output, h.size, h.block⟩
theorem alloc (h : Fr S a w) (o : Obj) : Fr S a (w.alloc o) := h.trans ⟨rfl, rfl, rfl, by simp, fun k hk _ => Below.heap_alloc _ _ _ hk⟩
theorem setCell (h : Fr S a w) {p : Addr} (hp : S p.block) (u : Value) : Fr S a (w.setCell p u) :=
  h.trans ⟨rfl, rfl, rfl, by simp [World.setCell], fun k _ hS => Below.heap_setCell _ _ _ _ (fun e => hS (e ▸ hp))⟩
theorem grown {row : Option Nat} (h : Fr S a w) (hg : w.grownBy w' row) (hr : ∀ k, row = some k → S k) : Fr S a w' :=
  h.trans ⟨hg.os, hg.tape, hg.output, hg.size, fun k hk hS => hg.block k hk (fun e => hS (hr k e.symm))⟩
theorem freeze (h : Fr S a w) {p : Addr} (hp : S p.block) (n : Nat) : Fr S a (w.freeze p n) := by
  refine h.trans ?_
  unfold World.freeze
  split
  · exact refl S w
  · exact ⟨rfl, rfl, rfl, by simp, fun k _ hS => by
      simp only [Array.getElem?_modify]
      rw [if_neg (fun (e : p.block = k) => hS (e ▸ hp))]⟩
theorem mono {S' : Nat → Prop} (h : Fr S a w) (hs : ∀ k, S k → S' k) : Fr S' a w := ⟨h.os, h.tape, h.output, h.size, fun k hk hS => h.block k hk (fun e => hS (hs k e))⟩
theorem below (h : Fr S a w) {B : Nat} (hB : B ≤ a.heap.size) (hS : ∀ k, S k → B ≤ k) : Below B a w :=
  ⟨h.os, h.tape, h.output, h.size, fun k hk => h.block k (by omega) (fun e => by have := hS k e; omega)⟩
theorem of_below {B : Nat} (h : Below B a w) : Fr (fun k => B ≤ k) a w := ⟨h.os, h.tape, h.output, h.size, fun k _ hS => h.block k (by omega)⟩
end Fr

/-- A builder in block b, its bytes in the row that v leads to, which lies from base on. -/
def BV (b base : Nat) (v : Value) (bs : List Value) (w : World) : Prop :=
  (∃ p, (p = Value.pointer none ∨ p = .pointer (some ⟨b, 0, none⟩)) ∧ w.heap[b]? = some (.cells #[p, v] 90 (0, 0))) ∧ w.ownsRowF base 5 1 v bs.length bs
/-- What a writing method may turn. -/
def BS (b : Nat) (v : Value) (k : Nat) : Prop := k = b ∨ v.ownBlock = some k
theorem BV.slice {b base : Nat} {v : Value} {bs : List Value} {w : World} (h : BV b base v bs w) : ∃ ao cap, v = .slice ao bs.length cap := by
  rcases h.2.2 with ⟨hv, h0⟩ | ⟨g, cap, cur, fz, hv, _⟩
  · exact ⟨none, 0, by rw [hv, h0]⟩
  · exact ⟨_, _, hv⟩
theorem BV.ne {b base : Nat} {v : Value} {bs : List Value} {w : World} (h : BV b base v bs w) : v.ownBlock ≠ some b := by
  obtain ⟨⟨p, _, hb⟩, hown⟩ := h
  intro e
  rcases hown.2 with ⟨rfl, _⟩ | ⟨g, cap, cur, fz, rfl, _, hg, _⟩
  · simp [Value.ownBlock] at e
  · have : g = b := by simpa [Value.ownBlock] using e
    subst this
    rw [hg] at hb
    injection hb with hb
    injection hb with _ hb
    exact absurd hb (by decide)
theorem BV.lt {b base : Nat} {v : Value} {bs : List Value} {w : World} (h : BV b base v bs w) : b < w.heap.size := by
  obtain ⟨⟨p, _, hb⟩, _⟩ := h
  rcases Nat.lt_or_ge b w.heap.size with h' | h'
  · exact h'
  · simp [Array.getElem?_eq_none h'] at hb
/-- Over a step that turns neither its block nor its row. -/
theorem BV.kept {S : Nat → Prop} {b base : Nat} {v : Value} {bs : List Value} {w w' : World} (h : BV b base v bs w) (f : Fr S w w') (hb : ¬ S b) (hr : ∀ k, v.ownBlock = some k → ¬ S k) : BV b base v bs w' := by
  have hlt := h.lt
  obtain ⟨⟨p, hp, hh⟩, h1, h2⟩ := h
  refine ⟨⟨p, hp, (f.block b hlt hb).trans hh⟩, h1, ?_⟩
  rcases h2 with h2 | ⟨g, cap, cur, fz, rfl, hg, hh', r⟩
  · exact .inl h2
  · have hgl : g < w.heap.size := by
      rcases Nat.lt_or_ge g w.heap.size with h' | h'
      · exact h'
      · simp [Array.getElem?_eq_none h'] at hh'
    exact .inr ⟨g, cap, cur, fz, rfl, hg, (f.block g hgl (hr g (by simp [Value.ownBlock]))).trans hh', r⟩

theorem sizeBuilder : (Tryz.prog.info? 90).map (·.size) = some 2 := by kernel_rfl
theorem liesBuilder : liesAt Tryz.prog Tryz.prog.depth 90 (2 / Tryz.prog.cellsOf 90) 0 90 1 = true := by kernel_rfl

set_option maxHeartbeats 1000000 in
set_option maxRecDepth 100000 in
theorem copyCheck_used (b : Nat) (w : World) (h0 : w.cell? ⟨b, 0, none⟩ = some (.pointer (some ⟨b, 0, none⟩))) :
    Calls Tryz.prog 73 #[.pointer (some ⟨b, 0, none⟩)] w fun e w' => e = .returned (.tuple #[]) ∧ w' = w := by
  obtain ⟨j, hj, _⟩ := Option.map_eq_some_iff.1 sizeBuilder
  go_enter Tryz.func73, Tryz.ntmps73
  go_wp2
  rw [Lib.run_neq_ptr_same w _ Tryz.underlying88 hj]
  go_wp2
  go_end0
  exact ⟨rfl, rfl⟩
set_option maxHeartbeats 1000000 in
set_option maxRecDepth 100000 in
theorem copyCheck_fresh (b : Nat) (w : World) (h0 : w.cell? ⟨b, 0, none⟩ = some (.pointer none)) (hsh : w.shape? b = some (90, 2)) (hfz : w.frozen? ⟨b, 0, none⟩ = false) :
    Calls Tryz.prog 73 #[.pointer (some ⟨b, 0, none⟩)] w fun e w' => e = .returned (.tuple #[]) ∧ w' = w.setCell ⟨b, 0, none⟩ (.pointer (some ⟨b, 0, none⟩)) := by
  obtain ⟨j, hj, hjs⟩ := Option.map_eq_some_iff.1 sizeBuilder
  go_enter Tryz.func73, Tryz.ntmps73
  go_wp2
  rw [Lib.run_to_unsafe w ⟨b, 0, none⟩ Tryz.underlying88 Tryz.underlying121 hj (by rw [hjs]; decide) hsh (Nat.zero_lt_succ 1)]
  simp only [Result.andThen]
  rw [Oper.upon_value]
  go_wp2
  rw [run_callFunc_extern Tryz.func85 (by kernel_rfl) (by kernel_rfl) (by kernel_rfl) (e := Extern.AbiNoEscape.same) (by kernel_rfl)]
  rw [Lib.run_noEscape]
  simp only [Result.andThen]
  rw [Oper.upon_value]
  go_wp2
  rw [Lib.run_from_unsafe w ⟨b, 0, none⟩ Tryz.underlying121 Tryz.underlying88 hj hsh liesBuilder]
  simp only [Result.andThen]
  rw [Oper.upon_value]
  go_wp2
  go_end0
  exact ⟨rfl, rfl⟩

theorem copyCheck_calls (b base : Nat) (v : Value) (bs : List Value) (w : World) (h : BV b base v bs w) :
    Calls Tryz.prog 73 #[.pointer (some ⟨b, 0, none⟩)] w fun e w' => e = .returned (.tuple #[]) ∧ w'.heap[b]? = some (.cells #[.pointer (some ⟨b, 0, none⟩), v] 90 (0, 0)) ∧ BV b base v bs w' ∧ Fr (BS b v) w w' := by
  have hne := h.ne
  have hlt := h.lt
  obtain ⟨⟨p, hp, hb⟩, hown⟩ := h
  rcases hp with rfl | rfl
  · refine (copyCheck_fresh b w (by rw [Lib.cell_of_heap hb]; rfl) (by simp [World.shape?, hb]) (Lib.frozen_of_heap hb 0)).mono ?_
    rintro e w' ⟨rfl, rfl⟩
    have hb' : (w.setCell ⟨b, 0, none⟩ (.pointer (some ⟨b, 0, none⟩))).heap[b]? = some (.cells #[.pointer (some ⟨b, 0, none⟩), v] 90 (0, 0)) := by
      simp only [World.setCell, Array.getElem?_modify, hb]
      simp
    refine ⟨rfl, hb', ⟨⟨_, .inr rfl, hb'⟩, hown.1, ?_⟩, (Fr.refl _ w).setCell (.inl rfl) _⟩
    rcases hown.2 with h2 | ⟨g, cap, cur, fz, rfl, hg, hh', r⟩
    · exact .inl h2
    · exact .inr ⟨g, cap, cur, fz, rfl, hg, (Below.heap_setCell _ _ _ _ (fun e => hne (by simp [Value.ownBlock, e]))).trans hh', r⟩
  · refine (copyCheck_used b w (by rw [Lib.cell_of_heap hb]; rfl)).mono ?_
    rintro e w' ⟨rfl, rfl⟩
    exact ⟨rfl, hb, ⟨⟨_, .inr rfl, hb⟩, hown⟩, Fr.refl _ _⟩

theorem cellsByte : Tryz.prog.cellsOf 5 = 1 := by kernel_rfl
set_option maxHeartbeats 2000000 in
set_option maxRecDepth 100000 in
/-- String of a builder that holds something. -/
theorem string_calls (b base : Nat) (v : Value) (l : List UInt8) (w : World) (h : BV b base v (Lib.byteCells l) w) (h0 : l ≠ []) :
    Calls Tryz.prog 61 #[.pointer (some ⟨b, 0, none⟩)] w fun e w' => e = .returned (.string ⟨l.toArray⟩) ∧ Fr (BS b v) w w' := by
  obtain ⟨⟨p, hp, hbk⟩, hown⟩ := h
  have hl0 : l.length ≠ 0 := by simpa using h0
  rw [Lib.byteCells_length] at hown
  obtain ⟨g, cap, cur, fz, rfl, hbg, hg, hfz, hnc, hcm, hcs, htake⟩ : ∃ g cap cur fz, v = .slice (some ⟨g, 0, none⟩) l.length cap ∧ base ≤ g ∧ w.heap[g]? = some (.cells cur 5 fz) ∧ fz.2 ≤ l.length * 1 ∧ l.length ≤ cap ∧ cap ≤ maxLen ∧ cur.size = cap * 1 ∧ cur.toList.take (l.length * 1) = Lib.byteCells l := by
    rcases hown.2 with ⟨_, hz⟩ | ⟨g, cap, cur, fz, hv, r⟩
    · exact absurd hz hl0
    · exact ⟨g, cap, cur, fz, hv, r⟩
  have c1 : w.drew.cell? ⟨b, 1, none⟩ = some (.slice (some ⟨g, 0, none⟩) l.length cap) := by
    have : w.drew.heap[b]? = some (.cells #[p, .slice (some ⟨g, 0, none⟩) l.length cap] 90 (0, 0)) := hbk
    rw [Lib.cell_of_heap this]; rfl
  have hSD : (Builtin.unsafeSliceData_ #[60] 107 #[.slice (some ⟨g, 0, none⟩) l.length cap]).run Tryz.prog w.drew = .ok (.pointer (some ⟨g, 0, none⟩)) w.drew :=
    Lib.run_unsafeSliceData_row _ _ _ _ _ _ (by omega)
  have hUS : (Builtin.unsafeString_ #[107, 3] 9 #[.pointer (some ⟨g, 0, none⟩), .int .i64 l.length]).run Tryz.prog w.drew = .ok (.string ⟨l.toArray⟩) (w.drew.freeze ⟨g, 0, none⟩ l.length) := by
    refine Lib.run_unsafeString_row w.drew 107 3 9 5 Tryz.underlying107 cellsByte g cur.size (by have hg' : w.drew.heap[g]? = some (.cells cur 5 fz) := hg; simp [World.shape?, hg']) l h0 (by omega) (by unfold maxLen at hcm; omega) ?_
    intro j x hx
    have := hown.cells (g := g) rfl j (.int .u8 x.toNat) (by simp [Lib.byteCells, hx])
    exact this
  go_enter Tryz.func61, Tryz.ntmps61
  go_wp2
  go_region
  all_goals (go_wp2; go_ret; exact ⟨rfl, ((Fr.refl _ w).drew).freeze (.inr rfl) _⟩)
end Go.Proofs.YtdpeadckejhloaaGreatDoor.Giv

namespace Go.Proofs.YtdpeadckejhloaaGreatDoor.Giv
open Go.RowKit
set_option linter.unusedSimpArgs false
set_option linter.unusedVariables false

theorem infoByteB : (Tryz.prog.info? 5).map (fun i => (i.zero, i.size, i.bytes)) = some (some (.int .u8 0), 1, 1) := by kernel_rfl
set_option maxHeartbeats 4000000 in
set_option maxRecDepth 100000 in
theorem writeString_calls (b base : Nat) (v : Value) (bs : List Value) (s : ByteArray) (hs0 : 0 < s.size) (w : World) (h : BV b base v bs w) (hlen : bs.length + s.size ≤ 140737488355328) (hBw : base ≤ w.heap.size) :
    Calls Tryz.prog 59 #[.pointer (some ⟨b, 0, none⟩), .string s] w fun e w' => e = .returned (.tuple #[.int .i64 s.size, .nilIface]) ∧ ∃ v', BV b base v' (bs ++ Lib.strCells s) w' ∧ Fr (BS b v) w w' := by
  have hne := h.ne
  have hcl := Lib.strCells_length s
  obtain ⟨i0, hi, hz0, hz1, hz2⟩ := info_parts infoByteB
  go_enter Tryz.func59, Tryz.ntmps59
  go_wp2_with (go_at_call 73; refine (copyCheck_calls b base v bs _ h).mono ?_)
  rintro e w1 ⟨rfl, hbk, h1, hf1⟩
  have hlt := h1.lt
  obtain ⟨_, hown⟩ := h1
  have c0 : w1.cell? ⟨b, 0, none⟩ = some (.pointer (some ⟨b, 0, none⟩)) := by rw [Lib.cell_of_heap hbk]; rfl
  have c1 : w1.cell? ⟨b, 1, none⟩ = some v := by rw [Lib.cell_of_heap hbk]; rfl
  go_wp2_with (at_builtin; refine Lib.wpList_append_own_stringF _ rfl _ _ 60 9 rfl base 5 i0 Tryz.underlying60 Tryz.underlying9 hi hz0 hz1 hz2 _ _ _ rfl hown s rfl ?c3 ?c4 ?c5 ?_)
  case c3 => unfold maxLen; omega
  case c4 => omega
  case c5 => have := hf1.size; omega
  intro v' w2 hown' hgrow _
  have hb2 : w2.heap[b]? = some (.cells #[.pointer (some ⟨b, 0, none⟩), v] 90 (0, 0)) := by
    rw [hgrow.block b hlt (fun e => hne e.symm)]
    exact hbk
  have d0 : w2.cell? ⟨b, 0, none⟩ = some (.pointer (some ⟨b, 0, none⟩)) := by rw [Lib.cell_of_heap hb2]; rfl
  have d1 : w2.cell? ⟨b, 1, none⟩ = some v := by rw [Lib.cell_of_heap hb2]; rfl
  have f1 : w2.frozen? ⟨b, 1, none⟩ = false := Lib.frozen_of_heap hb2 1
  obtain ⟨g, cap', rfl⟩ : ∃ g cap', v' = .slice (some ⟨g, 0, none⟩) (bs.length + s.size) cap' := by
    rcases hown'.2 with ⟨_, h0⟩ | ⟨g, cap', cur, fz, hv, _⟩
    · omega
    · exact ⟨g, cap', hv⟩
  go_wp2
  go_ret2
  have hb3 : (w2.setCell ⟨b, 1, none⟩ (.slice (some ⟨g, 0, none⟩) (bs.length + s.size) cap')).heap[b]? = some (.cells #[.pointer (some ⟨b, 0, none⟩), .slice (some ⟨g, 0, none⟩) (bs.length + s.size) cap'] 90 (0, 0)) := by
    simp only [World.setCell, Array.getElem?_modify, hb2]
    simp
  refine ⟨rfl, _, ⟨⟨_, .inr rfl, hb3⟩, by simp [hcl], ?_⟩, (hf1.grown hgrow (fun k e => .inr e)).setCell (.inl rfl) _⟩
  rcases hown'.2 with ⟨hz, _⟩ | ⟨g2, cap2, cur, fz, hv, hg, hh', r2⟩
  · simp at hz
  · refine .inr ⟨g2, cap2, cur, fz, by simpa [hcl] using hv, hg, (Below.heap_setCell _ _ _ _ (fun (e : g2 = b) => ?_)).trans hh', by simpa [hcl] using r2⟩
    subst e
    rw [hb2] at hh'
    injection hh' with hb
    injection hb with _ hb
    exact absurd hb (by decide)
end Go.Proofs.YtdpeadckejhloaaGreatDoor.Giv

namespace Go.Proofs.YtdpeadckejhloaaGreatDoor.Giv
open Go.RowKit
set_option linter.unusedSimpArgs false
set_option linter.unusedVariables false

theorem byteOne : (Tryz.prog.info? 5).map (·.size) = some 1 := by kernel_rfl
theorem blkLt {w : World} {b : Nat} {o : Obj} (h : w.heap[b]? = some o) : b < w.heap.size := by
  rcases Nat.lt_or_ge b w.heap.size with h' | h'
  · exact h'
  · simp [Array.getElem?_eq_none h'] at h
/-- A buffer made for it that holds nothing yet. -/
theorem BV.made {b base : Nat} {cs : Array Value} {w : World} (hbk : w.heap[b]? = some (.cells #[.pointer (some ⟨b, 0, none⟩), .slice none 0 0] 90 (0, 0))) (hB : base ≤ w.heap.size) (hm : cs.size ≤ maxLen) :
    BV b base (.slice (some ⟨w.heap.size, 0, none⟩) 0 cs.size) [] ((w.setCell ⟨b, 1, none⟩ (.slice (some ⟨w.heap.size, 0, none⟩) 0 cs.size)).alloc (.cells cs 5)) := by
  have hlt := blkLt hbk
  have hsz : (w.setCell ⟨b, 1, none⟩ (.slice (some ⟨w.heap.size, 0, none⟩) 0 cs.size)).heap.size = w.heap.size := by simp [World.setCell]
  have h1 : (w.setCell ⟨b, 1, none⟩ (.slice (some ⟨w.heap.size, 0, none⟩) 0 cs.size)).heap[b]? = some (.cells #[.pointer (some ⟨b, 0, none⟩), .slice (some ⟨w.heap.size, 0, none⟩) 0 cs.size] 90 (0, 0)) := by
    simp only [World.setCell, Array.getElem?_modify, hbk]
    simp
  have h2 := (Lib.alloc_old _ (.cells cs 5) b (by rw [hsz]; exact hlt)).trans h1
  have h3 := heap_alloc_new (w.setCell ⟨b, 1, none⟩ (.slice (some ⟨w.heap.size, 0, none⟩) 0 cs.size)) (.cells cs 5)
  rw [hsz] at h3
  exact ⟨⟨_, .inr rfl, h2⟩, by simp, .inr ⟨w.heap.size, cs.size, cs, (0, 0), rfl, hB, h3, Nat.zero_le _, Nat.zero_le _, hm, by simp, by simp⟩⟩
set_option maxHeartbeats 2000000 in
set_option maxRecDepth 100000 in
theorem grow_fresh (b n : Nat) (w : World) (hbk : w.heap[b]? = some (.cells #[.pointer (some ⟨b, 0, none⟩), .slice none 0 0] 90 (0, 0))) (base : Nat) (hb : base ≤ b) (hn : n ≤ 281474976710656) :
    Calls Tryz.prog 74 #[.pointer (some ⟨b, 0, none⟩), .int .i64 n] w fun e w' => e = .returned (.tuple #[]) ∧ (∃ v, BV b base v [] w') ∧ Below base w w' := by
  obtain ⟨cs, hrun, hle, hmax⟩ := Lib.run_makeNoZero (P := Tryz.prog) w.drew #[3] 60 5 Tryz.underlying60 n hn
  have hlt := blkLt hbk
  have hw : IntKind.i64.wrap (IntKind.i64.wrap 0 + (n : Int)) = n := by
    rw [IntKind.wrap_i64, IntKind.wrap_i64]
    omega
  have hcall : (callFunc 86 #[.int .i64 (IntKind.i64.wrap (IntKind.i64.wrap 0 + (n : Int)))]).run Tryz.prog w.drew = .ok (.value (.slice (some ⟨w.drew.heap.size, 0, none⟩) n cs.size)) (w.drew.drew.drew.alloc (.cells cs 5)) := by
    rw [hw, run_callFunc_extern Tryz.func86 (by kernel_rfl) (by kernel_rfl) (by kernel_rfl) (e := Extern.BytealgMakeNoZero.makeNoZero #[3] #[60]) (by kernel_rfl), hrun]
    rfl
  have c1 : w.drew.cell? ⟨b, 1, none⟩ = some (.slice none 0 0) := by
    have : w.drew.heap[b]? = _ := hbk
    rw [Lib.cell_of_heap this]
    rfl
  have h1 : (w.alloc (.cells cs 5)).heap[b]? = _ := (Lib.alloc_old w _ b hlt).trans hbk
  have c2 : (w.alloc (.cells cs 5)).cell? ⟨b, 1, none⟩ = some (.slice none 0 0) := by
    rw [Lib.cell_of_heap h1]
    rfl
  have f2 : (w.alloc (.cells cs 5)).frozen? ⟨b, 1, none⟩ = false := Lib.frozen_of_heap h1 1
  have hcopy : ∀ W : World, (Builtin.copy_ #[60, 60] 3 #[.slice (some ⟨w.heap.size, 0, none⟩) 0 cs.size, .slice none 0 0]).run Tryz.prog W = .ok (goInt 0) W :=
    fun W => run_copy_none W 60 60 3 5 _ _ 0 cs.size 0 0 Tryz.underlying60 byteOne rfl
  clear hw
  go_enter Tryz.func74, Tryz.ntmps74
  go_wp2
  have hfin := BV.made (b := b) (base := base) (cs := cs) hbk (by omega) (hmax (by unfold maxLen; omega))
  have hbl : Below base w ((w.setCell ⟨b, 1, none⟩ (.slice (some ⟨w.heap.size, 0, none⟩) 0 cs.size)).alloc (.cells cs 5)) := ((Below.refl base w).setCell (p := ⟨b, 1, none⟩) hb _).alloc (by simp [World.setCell]; omega) _
  go_region
  all_goals (go_wp2; go_end0; exact ⟨rfl, ⟨_, hfin⟩, hbl.drew.drew.drew⟩)
end Go.Proofs.YtdpeadckejhloaaGreatDoor.Giv

namespace Go.Proofs.YtdpeadckejhloaaGreatDoor.Giv
open Go.RowKit
set_option linter.unusedSimpArgs false
set_option linter.unusedVariables false

set_option maxHeartbeats 2000000 in
set_option maxRecDepth 100000 in
theorem Grow_fresh (b n : Nat) (w : World) (hbk : w.heap[b]? = some (.cells #[.pointer none, .slice none 0 0] 90 (0, 0))) (base : Nat) (hb : base ≤ b) (hn : n ≤ 281474976710656) :
    Calls Tryz.prog 58 #[.pointer (some ⟨b, 0, none⟩), .int .i64 n] w fun e w' => e = .returned (.tuple #[]) ∧ (∃ v, BV b base v [] w') ∧ Below base w w' := by
  have hbk1 : (w.setCell ⟨b, 0, none⟩ (.pointer (some ⟨b, 0, none⟩))).heap[b]? = some (.cells #[.pointer (some ⟨b, 0, none⟩), .slice none 0 0] 90 (0, 0)) := by
    simp [World.setCell, Array.getElem?_modify, hbk]
  have c1 : (w.setCell ⟨b, 0, none⟩ (.pointer (some ⟨b, 0, none⟩))).cell? ⟨b, 1, none⟩ = some (.slice none 0 0) := by
    rw [Lib.cell_of_heap hbk1]
    rfl
  have c1' : (w.setCell ⟨b, 0, none⟩ (.pointer (some ⟨b, 0, none⟩))).drew.cell? ⟨b, 1, none⟩ = some (.slice none 0 0) := c1
  have hb1 : Below base w (w.setCell ⟨b, 0, none⟩ (.pointer (some ⟨b, 0, none⟩))) := (Below.refl base w).setCell (p := ⟨b, 0, none⟩) hb _
  have hU : BV b base (.slice none 0 0) [] (w.setCell ⟨b, 0, none⟩ (.pointer (some ⟨b, 0, none⟩))) := ⟨⟨_, .inr rfl, hbk1⟩, World.ownsRowF_nil _ _ _ _⟩
  go_enter Tryz.func58, Tryz.ntmps58
  go_wp2_with (go_at_call 73; refine (copyCheck_fresh b w (by rw [Lib.cell_of_heap hbk]; rfl) (by simp [World.shape?, hbk]) (Lib.frozen_of_heap hbk 0)).mono ?_; rintro e w' ⟨rfl, rfl⟩)
  go_region
  all_goals go_wp2_with (go_at_call 74; refine (grow_fresh b n (w.setCell ⟨b, 0, none⟩ (.pointer (some ⟨b, 0, none⟩))).drew hbk1 base hb hn).mono ?_; rintro e w' ⟨rfl, h1, h2⟩)
  all_goals first
    | (go_end0; exact ⟨rfl, h1, hb1.drew.trans h2⟩)
    | (go_end0; exact ⟨rfl, ⟨_, hU⟩, hb1.drew⟩)
set_option maxHeartbeats 4000000 in
set_option maxRecDepth 100000 in
theorem writeByte_calls (b base : Nat) (v : Value) (bs : List Value) (c : Int) (w : World) (h : BV b base v bs w) (hlen : bs.length + 1 ≤ 140737488355328) (hBw : base ≤ w.heap.size) :
    Calls Tryz.prog 60 #[.pointer (some ⟨b, 0, none⟩), .int .u8 c] w fun e w' => e = .returned .nilIface ∧ ∃ v', BV b base v' (bs ++ [.int .u8 c]) w' ∧ Fr (BS b v) w w' := by
  have hne := h.ne
  obtain ⟨i0, hi, hz0, hz1, hz2⟩ := info_parts infoByteB
  go_enter Tryz.func60, Tryz.ntmps60
  go_wp2_with (go_at_call 73; refine (copyCheck_calls b base v bs _ h).mono ?_)
  rintro e w1 ⟨rfl, hbk, h1, hf1⟩
  have hlt := h1.lt
  obtain ⟨_, hown⟩ := h1
  have c0 : w1.cell? ⟨b, 0, none⟩ = some (.pointer (some ⟨b, 0, none⟩)) := by rw [Lib.cell_of_heap hbk]; rfl
  have c1 : w1.cell? ⟨b, 1, none⟩ = some v := by rw [Lib.cell_of_heap hbk]; rfl
  go_wp2_with (at_builtin; refine wpList_append_ownF _ rfl _ _ 60 rfl base 5 i0 (.int .u8 0) 1 1 Tryz.underlying60 hi hz0 hz1 hz2 rfl (by decide) _ _ _ rfl (hown.alloc _) ⟨w1.heap.size, 0, none⟩ 1 1 [.int .u8 c] rfl rfl ?c1 ?c2 ?c3 ?c4 ?c5 ?_)
  case c1 =>
    intro j u hj
    match j, hj with
    | 0, hj => simp at hj; subst hj; simp [Addr.add]
  case c2 => intro u hu; simp at hu; subst hu; rfl
  case c3 => unfold maxLen; omega
  case c4 => omega
  case c5 => have := hf1.size; simp; omega
  intro v' w2 hown' hgrow _
  have hb2 : w2.heap[b]? = some (.cells #[.pointer (some ⟨b, 0, none⟩), v] 90 (0, 0)) := by
    rw [hgrow.block b (by simp; omega) (fun e => hne e.symm), Lib.alloc_old w1 _ b hlt]
    exact hbk
  have d0 : w2.cell? ⟨b, 0, none⟩ = some (.pointer (some ⟨b, 0, none⟩)) := by rw [Lib.cell_of_heap hb2]; rfl
  have d1 : w2.cell? ⟨b, 1, none⟩ = some v := by rw [Lib.cell_of_heap hb2]; rfl
  have f1 : w2.frozen? ⟨b, 1, none⟩ = false := Lib.frozen_of_heap hb2 1
  obtain ⟨g, cap', rfl⟩ : ∃ g cap', v' = .slice (some ⟨g, 0, none⟩) (bs.length + 1) cap' := by
    rcases hown'.2 with ⟨_, h0⟩ | ⟨g, cap', cur, fz, hv, _⟩
    · omega
    · exact ⟨g, cap', hv⟩
  go_wp2
  go_ret
  have hb3 : (w2.setCell ⟨b, 1, none⟩ (.slice (some ⟨g, 0, none⟩) (bs.length + 1) cap')).heap[b]? = some (.cells #[.pointer (some ⟨b, 0, none⟩), .slice (some ⟨g, 0, none⟩) (bs.length + 1) cap'] 90 (0, 0)) := by
    simp only [World.setCell, Array.getElem?_modify, hb2]
    simp
  refine ⟨rfl, _, ⟨⟨_, .inr rfl, hb3⟩, by simp, ?_⟩, ((hf1.alloc _).grown hgrow (fun k e => .inr e)).setCell (.inl rfl) _⟩
  rcases hown'.2 with ⟨hz, _⟩ | ⟨g2, cap2, cur, fz, hv, hg, hh', r2⟩
  · simp at hz
  · refine .inr ⟨g2, cap2, cur, fz, by simpa using hv, hg, (Below.heap_setCell _ _ _ _ (fun (e : g2 = b) => ?_)).trans hh', by simpa using r2⟩
    subst e
    rw [hb2] at hh'
    injection hh' with hb
    injection hb with _ hb
    exact absurd hb (by decide)
/-- A writing keeps what lies below. -/
theorem BV.lies {b base : Nat} {v : Value} {bs : List Value} {w w' : World} (h : BV b base v bs w) (f : Fr (BS b v) w w') (hb : base ≤ b) (hB : base ≤ w.heap.size) : Below base w w' := by
  refine f.below hB ?_
  rintro k (rfl | hk)
  · exact hb
  · rcases h.2.2 with ⟨rfl, _⟩ | ⟨g, cap, cur, fz, rfl, hg, _⟩
    · simp [Value.ownBlock] at hk
    · have : g = k := by simpa [Value.ownBlock] using hk
      omega
/-- What a builder holds, whatever leads to it, and that what lies below stands. -/
def Wr (b base : Nat) (l : List UInt8) (w0 w : World) : Prop := (∃ v, BV b base v (Lib.byteCells l) w) ∧ Below base w0 w
theorem wr_byte {b base : Nat} {l : List UInt8} {w0 w : World} (c : UInt8) (ci : Int) (hc : ci = c.toNat) (h : Wr b base l w0 w) (hl : l.length + 1 ≤ 140737488355328) (hb : base ≤ b) (h0 : base ≤ w0.heap.size) :
    Calls Tryz.prog 60 #[.pointer (some ⟨b, 0, none⟩), .int .u8 ci] w fun e w' => e = .returned .nilIface ∧ Wr b base (l ++ [c]) w0 w' := by
  obtain ⟨⟨v, hv⟩, hbl⟩ := h
  have hB := Nat.le_trans h0 hbl.size
  refine (writeByte_calls b base v _ ci w hv (by rw [Lib.byteCells_length]; omega) hB).mono ?_
  rintro e w' ⟨rfl, v', hv', f⟩
  refine ⟨rfl, ⟨v', ?_⟩, hbl.trans (hv.lies f hb hB)⟩
  rw [Lib.byteCells_append]
  rw [hc] at hv'
  exact hv'
theorem wr_text {b base : Nat} {l : List UInt8} {w0 w : World} (s : ByteArray) (hs : 0 < s.size) (h : Wr b base l w0 w) (hl : l.length + s.size ≤ 140737488355328) (hb : base ≤ b) (h0 : base ≤ w0.heap.size) :
    Calls Tryz.prog 59 #[.pointer (some ⟨b, 0, none⟩), .string s] w fun e w' => e = .returned (.tuple #[.int .i64 s.size, .nilIface]) ∧ Wr b base (l ++ s.data.toList) w0 w' := by
  obtain ⟨⟨v, hv⟩, hbl⟩ := h
  have hB := Nat.le_trans h0 hbl.size
  refine (writeString_calls b base v _ s hs w hv (by rw [Lib.byteCells_length]; omega) hB).mono ?_
  rintro e w' ⟨rfl, v', hv', f⟩
  refine ⟨rfl, ⟨v', ?_⟩, hbl.trans (hv.lies f hb hB)⟩
  rw [Lib.byteCells_append, ← Lib.strCells_eq]
  exact hv'
theorem wr_done {b base : Nat} {l : List UInt8} {w0 w : World} (hne : l ≠ []) (h : Wr b base l w0 w) (hb : base ≤ b) (h0 : base ≤ w0.heap.size) :
    Calls Tryz.prog 61 #[.pointer (some ⟨b, 0, none⟩)] w fun e w' => e = .returned (.string ⟨l.toArray⟩) ∧ Below base w0 w' := by
  obtain ⟨⟨v, hv⟩, hbl⟩ := h
  refine (string_calls b base v l w hv hne).mono ?_
  rintro e w' ⟨rfl, f⟩
  exact ⟨rfl, hbl.trans (hv.lies f hb (Nat.le_trans h0 hbl.size))⟩
theorem wr_grown (n : Nat) (w : World) (hn : n ≤ 281474976710656) :
    Calls Tryz.prog 58 #[.pointer (some ⟨w.heap.size, 0, none⟩), .int .i64 n] (w.alloc (.cells #[.pointer none, .slice none 0 0] 90)) fun e w' => e = .returned (.tuple #[]) ∧ Wr w.heap.size w.heap.size [] w w' := by
  refine (Grow_fresh w.heap.size n _ (heap_alloc_new w _) w.heap.size (Nat.le_refl _) hn).mono ?_
  rintro e w' ⟨rfl, hv, hb⟩
  exact ⟨rfl, hv, ((Below.refl w.heap.size w).alloc (Nat.le_refl _) _).trans hb⟩
end Go.Proofs.YtdpeadckejhloaaGreatDoor.Giv

namespace Go.Proofs.YtdpeadckejhloaaGreatDoor.Giv
open Go.RowKit Go.Proofs.YtdpeadckejhloaaGreatDoorW.PrintWords Go.Proofs.YtdpeadckejhloaaGreatDoorW.PrintLast
set_option linter.unusedSimpArgs false
set_option linter.unusedVariables false

/-- A text in small letters. -/
def low (s : ByteArray) : ByteArray := ⟨(Lib.toLowerA s.data.toList).toArray⟩
set_option maxHeartbeats 4000000 in
set_option maxRecDepth 100000 in
theorem toLower_calls (s : ByteArray) (w : World) (hs : s.size ≤ 140737488355328) (ha : ∀ (j : Nat) (b : UInt8), s.data.toList[j]? = some b → b.toNat < 128) :
    Calls Tryz.prog 44 #[.string s] w fun e w' => e = .returned (.string ⟨(Lib.toLowerA s.data.toList).toArray⟩) ∧ Below w.heap.size w w' := by
  have HA := Aside0.mk ha
  clear ha
  go_enter Tryz.func44, Tryz.ntmps44
  go_wp2
  go_loop [3, 4, 5] (fun a h i => ∃ k : Nat, k ≤ s.size ∧ a = .bool true ∧ h = .bool ((s.data.toList.take k).any Lib.isUpperB) ∧ i = .int .i64 k) (fun _ _ i => s.size - (match i with | .int _ n => n.toNat | _ => 0))
  case atStart => exact ⟨0, Nat.zero_le _, rfl, rfl, rfl⟩
  case round =>
    obtain ⟨k, hk, rfl, rfl, rfl⟩ := hrel
    generalize hH : (s.data.toList.take k).any Lib.isUpperB = H
    by_cases hlt : k < s.size
    · have hb : s.data.toList[k]? = some (s[k]'hlt) := by
        rw [Array.getElem?_toList]
        exact Array.getElem?_eq_getElem hlt
      have h128 : ¬ (128 : Int) ≤ ((s[k]'hlt).toNat : Int) := by have := HA.out k _ hb; omega
      have hnext : (s.data.toList.take (k + 1)).any Lib.isUpperB = (H || (decide ((65 : Int) ≤ ((s[k]'hlt).toNat : Int)) && decide (((s[k]'hlt).toNat : Int) ≤ 90))) := by
        rw [Lib.any_take_succ _ _ _ _ hb, hH, Lib.isUpperB_int]
      have Hn := Aside0.mk hnext
      clear hb hnext hH
      go_wp2
      all_goals (
        refine ⟨⟨k + 1, by omega, rfl, ?_, by go_num⟩, by simp; omega⟩
        rw [Hn.out]
        first
          | (simp_all; done)
          | (simp_all; omega))
    · obtain rfl : k = s.size := by omega
      have hall : s.data.toList.take s.size = s.data.toList := by rw [Lib.size_eq, List.take_length]
      rw [hall] at hH
      have HH := Aside0.mk hH
      clear hH hall
      cases H with
      | false =>
        go_wp2
        go_ret
        refine ⟨?_, Below.refl _ _⟩
        show Ending.returned (Value.string s) = _
        rw [Lib.toLowerA, Lib.map_of_none Lib.lowerB Lib.isUpperB Lib.lowerB_of_not _ HH.out, Lib.mk_data]
      | true =>
        go_wp2_with (go_at_call 58; refine (wr_grown s.size w (by omega)).mono ?_; rintro e w1 ⟨rfl, h1⟩; have H1 := Aside0.mk h1; clear h1)
        go_loopw [8, 9] (fun pos i wr => ∃ p k : Nat, p ≤ k ∧ k ≤ s.size ∧ pos = .int .i64 p ∧ i = .int .i64 k ∧ Aside0 (Wr w.heap.size w.heap.size ((s.data.toList.take p).map Lib.lowerB) w wr) ∧ Aside0 (((s.data.toList.drop p).take (k - p)).any Lib.isUpperB = false)) (fun _ i _ => s.size - (match i with | .int _ n => n.toNat | _ => 0))
        case atStart => exact ⟨0, 0, Nat.le_refl _, Nat.zero_le _, rfl, rfl, H1, Aside0.mk rfl⟩
        case round =>
          obtain ⟨p, k, hpk, hk2, rfl, rfl, HB, HN⟩ := hrel
          by_cases hlt2 : k < s.size
          · have hb : s.data.toList[k]? = some (s[k]'hlt2) := by
              rw [Array.getElem?_toList]
              exact Array.getElem?_eq_getElem hlt2
            have Hb := Aside0.mk hb
            clear hb
            by_cases hlow : Lib.isUpperB (s[k]'hlt2) = true
            · have h97 : (65 : Int) ≤ ((s[k]'hlt2).toNat : Int) := by
                rw [Lib.isUpperB_int] at hlow
                simp at hlow
                exact hlow.1
              have h122 : ((s[k]'hlt2).toNat : Int) ≤ 90 := by
                rw [Lib.isUpperB_int] at hlow
                simp at hlow
                exact hlow.2
              have hlenp : ((s.data.toList.take p).map Lib.lowerB).length = p := by
                rw [List.length_map, List.length_take, ← Lib.size_eq]
                omega
              have hxs : (s.extract p k).size = k - p := by
                rw [Lib.size_eq, Lib.extract_data, List.length_take, List.length_drop, ← Lib.size_eq]
                omega
              have hcont : (s.data.toList.take p).map Lib.lowerB ++ (s.extract p k).data.toList ++ [Lib.lowerB (s[k]'hlt2)] = (s.data.toList.take (k + 1)).map Lib.lowerB := by
                rw [← Lib.map_stretch Lib.lowerB Lib.isUpperB Lib.lowerB_of_not s.data.toList p k _ hpk Hb.out HN.out, Lib.extract_data]
              have Hc := Aside0.mk hcont
              have hci := Lib.lowerB_int _ hlow
              have HI := Aside0.mk hci
              clear hcont hci hlow
              by_cases hpl : p < k
              · have t1 := wr_text (s.extract p k) (by omega) HB.out (by omega) (Nat.le_refl _) (Nat.le_refl _)
                have t2 := fun (w2 : World) (h2 : Wr w.heap.size w.heap.size ((s.data.toList.take p).map Lib.lowerB ++ (s.extract p k).data.toList) w w2) => wr_byte (Lib.lowerB (s[k]'hlt2)) (((s[k]'hlt2).toNat : Int) + 32) HI.out.symm h2 (by rw [List.length_append, hlenp, ← Lib.size_eq, hxs]; omega) (Nat.le_refl _) (Nat.le_refl _)
                have hpi : (p : Int) < (k : Int) := by omega
                go_wp2_with (first | (go_at_call 59; refine t1.mono ?_; rintro e w2 ⟨rfl, h2⟩; have H2 := Aside0.mk h2; clear h2) | (go_at_call 60; refine (t2 _ H2.out).mono ?_; rintro e w3 ⟨rfl, h3⟩; rw [Hc.out] at h3; have H3 := Aside0.mk h3; clear h3))
                exact ⟨⟨k + 1, k + 1, Nat.le_refl _, by omega, by go_num, by go_num, H3, Aside0.mk (by simp)⟩, by simp; omega⟩
              · obtain rfl : p = k := by omega
                have hnil : (s.extract p p).data.toList = [] := List.eq_nil_of_length_eq_zero (by rw [← Lib.size_eq, hxs]; omega)
                have hc' := Hc.out
                rw [hnil, List.append_nil] at hc'
                have t2 := wr_byte (Lib.lowerB (s[p]'hlt2)) (((s[p]'hlt2).toNat : Int) + 32) HI.out.symm HB.out (by rw [hlenp]; omega) (Nat.le_refl _) (Nat.le_refl _)
                rw [hc'] at t2
                clear hc'
                have hpi : ¬ (p : Int) < (p : Int) := by omega
                go_wp2_with (go_at_call 60; refine t2.mono ?_; rintro e w3 ⟨rfl, h3⟩; have H3 := Aside0.mk h3; clear h3)
                exact ⟨⟨p + 1, p + 1, Nat.le_refl _, by omega, by go_num, by go_num, H3, Aside0.mk (by simp)⟩, by simp; omega⟩
            · have hlow' : Lib.isUpperB (s[k]'hlt2) = false := by simpa using hlow
              have hnot : ¬ ((65 : Int) ≤ ((s[k]'hlt2).toNat : Int) ∧ ((s[k]'hlt2).toNat : Int) ≤ 90) := by
                rw [Lib.isUpperB_int] at hlow'
                simpa using hlow'
              have hstretch : ((s.data.toList.drop p).take (k + 1 - p)).any Lib.isUpperB = false := by
                have e1 : k + 1 - p = (k - p) + 1 := by omega
                have e2 : (s.data.toList.drop p)[k - p]? = some (s[k]'hlt2) := by
                  rw [List.getElem?_drop, show p + (k - p) = k by omega]
                  exact Hb.out
                rw [e1, Lib.any_take_succ _ _ _ _ e2, HN.out, hlow']
                rfl
              have Hs := Aside0.mk hstretch
              clear hstretch
              go_wp2
              all_goals first
                | exact ⟨⟨p, k + 1, by omega, by omega, rfl, by go_num, HB, Hs⟩, by simp; omega⟩
                | (exfalso; omega)
          · obtain rfl : k = s.size := by omega
            have hne : s.data.toList.map Lib.lowerB ≠ [] := by
              intro h0
              have h1 : s.data.toList = [] := by simpa using h0
              have h2 := HH.out
              rw [h1] at h2
              cases h2
            have hlenp : ((s.data.toList.take p).map Lib.lowerB).length = p := by
              rw [List.length_map, List.length_take, ← Lib.size_eq]
              omega
            have hxs : (s.extract p s.size).size = s.size - p := by
              rw [Lib.size_eq, Lib.extract_data, List.length_take, List.length_drop, ← Lib.size_eq]
              omega
            have hfull : (s.data.toList.drop p).take (s.size - p) = s.data.toList.drop p := List.take_of_length_le (by rw [List.length_drop, ← Lib.size_eq]; omega)
            have hrest : (s.data.toList.drop p).any Lib.isUpperB = false := by rw [← hfull]; exact HN.out
            have hcont : (s.data.toList.take p).map Lib.lowerB ++ (s.extract p s.size).data.toList = s.data.toList.map Lib.lowerB := by
              rw [← Lib.map_rest Lib.lowerB Lib.isUpperB Lib.lowerB_of_not s.data.toList p hrest, Lib.extract_data, hfull]
            have Hc := Aside0.mk hcont
            clear hcont hfull hrest
            have t3 := fun (w3 : World) (h3 : Wr w.heap.size w.heap.size (s.data.toList.map Lib.lowerB) w w3) => wr_done hne h3 (Nat.le_refl _) (Nat.le_refl _)
            by_cases hpl : p < s.size
            · have t1 := wr_text (s.extract p s.size) (by omega) HB.out (by omega) (Nat.le_refl _) (Nat.le_refl _)
              rw [Hc.out] at t1
              have hpi : (p : Int) < (s.size : Int) := by omega
              go_wp2_with (first | (go_at_call 59; refine t1.mono ?_; rintro e w2 ⟨rfl, h2⟩; have H2 := Aside0.mk h2; clear h2) | (go_at_call 61; refine (t3 _ H2.out).mono ?_; rintro e w3 ⟨rfl, h3⟩; have H3 := Aside0.mk h3; clear h3))
              go_ret
              exact ⟨rfl, H3.out⟩
            · obtain rfl : p = s.size := by omega
              have hnil : (s.extract s.size s.size).data.toList = [] := List.eq_nil_of_length_eq_zero (by rw [← Lib.size_eq, hxs]; omega)
              have hc' := Hc.out
              rw [hnil, List.append_nil] at hc'
              have h2 := HB.out
              rw [hc'] at h2
              have H2 := Aside0.mk h2
              have hpi : ¬ (s.size : Int) < (s.size : Int) := by omega
              clear h2 hc'
              go_wp2_with (go_at_call 61; refine (t3 _ H2.out).mono ?_; rintro e w3 ⟨rfl, h3⟩; have H3 := Aside0.mk h3; clear h3)
              go_ret
              exact ⟨rfl, H3.out⟩
end Go.Proofs.YtdpeadckejhloaaGreatDoor.Giv

namespace Go.Proofs.YtdpeadckejhloaaGreatDoor.Giv
open Go.RowKit Go.Proofs.YtdpeadckejhloaaGreatDoorW.PrintWords Go.Proofs.YtdpeadckejhloaaGreatDoorW.PrintLast Go.Proofs.YtdpeadckejhloaaGreatDoor.Pk
set_option linter.unusedSimpArgs false
set_option linter.unusedVariables false

/-- A byte as a value. -/
def bv (c : UInt8) : Value := .int .u8 (c.toNat : Int)
/-- At block h lie a text's bytes, as a conversion laid them: nothing before the row's end is frozen. -/
def LiesT (w : World) (h : Nat) (l : List UInt8) : Prop := ∃ (arr : Array Value), w.heap[h]? = some (.cells arr 5 (arr.size, arr.size + 1)) ∧ l.length ≤ arr.size ∧ arr.toList.take l.length = l.map bv
theorem LiesT.cell {w : World} {h : Nat} {l : List UInt8} (hl : LiesT w h l) (i : Nat) (hi : i < l.length) : w.cell? ⟨h, i, none⟩ = some (.int .u8 ((l[i]'hi).toNat : Int)) := by
  obtain ⟨arr, h1, h2, h4⟩ := hl
  rw [Lib.cell_of_heap h1]
  have : (arr.toList.take l.length)[i]? = (l.map bv)[i]? := by rw [h4]
  rw [List.getElem?_take, if_pos hi, List.getElem?_map, List.getElem?_eq_getElem hi] at this
  simpa [bv] using this
theorem LiesT.frozen {w : World} {h : Nat} {l : List UInt8} (hl : LiesT w h l) (i : Nat) (hi : i < l.length) : w.frozen? ⟨h, i, none⟩ = false := by
  obtain ⟨arr, h1, h2, h4⟩ := hl
  have : i < arr.size := by omega
  simp [World.frozen?, h1]
  omega
theorem LiesT.set {w : World} {h : Nat} {l : List UInt8} (hl : LiesT w h l) (k : Nat) (hk : k < l.length) (c : UInt8) (ci : Int) (hc : ci = c.toNat) : LiesT (w.setCell ⟨h, k, none⟩ (.int .u8 ci)) h (l.set k c) := by
  obtain ⟨arr, h1, h2, h4⟩ := hl
  subst hc
  refine ⟨arr.setIfInBounds k (bv c), ?_, by rw [List.length_set, Array.size_setIfInBounds]; exact h2, ?_⟩
  · rw [Array.size_setIfInBounds]
    simp only [World.setCell, Array.getElem?_modify, h1]
    simp [bv]
  · rw [Array.toList_setIfInBounds, List.length_set, List.map_set, ← h4, List.take_set]
theorem LiesT.row {w : World} {h : Nat} {l : List UInt8} (hl : LiesT w h l) (hm : l.length ≤ 1000000) : (Kd.int .u8).C w (some ⟨h, 0, none⟩) l.length (l.map fun c => (c.toNat : Int)) := by
  refine ⟨by simp, by omega, fun _ => ⟨_, rfl, ?_⟩⟩
  intro j p hj
  have hlt : j < l.length := by
    have := (List.getElem?_eq_some_iff.1 hj).1
    simpa using this
  have hp : p = ((l[j]'hlt).toNat : Int) := by
    rw [List.getElem?_map, List.getElem?_eq_getElem hlt] at hj
    simpa using hj.symm
  refine ⟨[.int .u8 p], rfl, rfl, ?_⟩
  intro i u hu
  have hi : i = 0 := by
    have := (List.getElem?_eq_some_iff.1 hu).1
    simp at this
    exact this
  subst hi
  have hu' : u = .int .u8 p := by simpa using hu.symm
  rw [hu', hp]
  have := hl.cell j hlt
  show w.cell? (Go.Addr.add _ (j * 1 + 0)) = _
  rw [Nat.mul_one, Nat.add_zero]
  unfold Go.Addr.add
  by_cases hz : j = 0
  · subst hz
    simpa using this
  · simpa [hz] using this
theorem lies_conv (w : World) (s : ByteArray) : LiesT (Lib.bytesWorld w 5 s) w.heap.size s.data.toList := by
  refine ⟨_, Lib.bytesWorld_at_new w _ s, ?_, ?_⟩
  · simp [Lib.bytesCells]
  · rw [Lib.bytesCells, Array.toList_append, List.take_append_of_le_length (by simp), Array.toList_map, List.take_of_length_le (by simp)]
    rfl
/-- Small letters up to a place. -/
def lowTo (k : Nat) (l : List UInt8) : List UInt8 := (l.take k).map Lib.lowerB ++ l.drop k
theorem lowTo_len (k : Nat) (l : List UInt8) : (lowTo k l).length = l.length := by
  simp [lowTo]
  omega
theorem lowTo_at {k : Nat} {l : List UInt8} (h : k < l.length) : (lowTo k l)[k]'(by rw [lowTo_len]; exact h) = l[k]'h := by
  unfold lowTo
  rw [List.getElem_append_right (by simp; omega)]
  simp [show min k l.length = k by omega]
theorem lowTo_next {k : Nat} {l : List UInt8} (h : k < l.length) : (lowTo k l).set k (Lib.lowerB (l[k]'h)) = lowTo (k + 1) l := by
  unfold lowTo
  have e : ((l.take k).map Lib.lowerB).length = k := by simp; omega
  rw [List.set_append_right _ _ (by rw [e]; exact Nat.le_refl _), e, Nat.sub_self, List.drop_eq_getElem_cons h, List.set_cons_zero, List.take_succ_eq_append_getElem h, List.map_append, List.append_assoc]
  rfl
theorem lowTo_same {k : Nat} {l : List UInt8} (h : k < l.length) (hn : Lib.isUpperB (l[k]'h) = false) : lowTo k l = lowTo (k + 1) l := by
  rw [← lowTo_next h, Lib.lowerB_of_not _ hn]
  refine (List.ext_getElem (by simp) ?_)
  intro i h1 h2
  rw [List.getElem_set]
  split
  · next e =>
    subst e
    exact lowTo_at h
  · rfl
theorem lowTo_all (l : List UInt8) : lowTo l.length l = Lib.toLowerA l := by
  unfold lowTo Lib.toLowerA
  simp
theorem strOf_low (l : List UInt8) : strOfNums ((Lib.toLowerA l).map fun c => (c.toNat : Int)) = ⟨(Lib.toLowerA l).toArray⟩ := by
  unfold strOfNums
  rw [List.map_map]
  congr 1
  simp [Function.comp_def]
set_option maxHeartbeats 2000000 in
set_option maxRecDepth 100000 in
theorem specLower_calls (s : ByteArray) (w : World) (hs : s.size ≤ 100000) :
    Calls Tryz.prog 16 #[.string s] w fun e w' => e = .returned (.string (low s)) ∧ Below w.heap.size w w' := by
  have len : s.data.toList.length = s.size := (Lib.size_eq s).symm
  obtain ⟨cp, W3, hcv, hb3, hl3⟩ : ∃ (cp : Nat) (W3 : World), (convert 9 60 (.string s)).run Tryz.prog w = .ok (.slice (some ⟨w.heap.size, 0, none⟩) s.size cp) W3 ∧ Below w.heap.size w W3 ∧ LiesT W3 w.heap.size s.data.toList := ⟨_, _, Lib.run_convert_string_bytes w 9 60 5 s Tryz.underlying9 Tryz.underlying60 Tryz.underlying5, bytes_below (Below.refl _ _) (Nat.le_refl _) _ _, lies_conv w s⟩
  have B3 := Aside0.mk hb3
  have L3 := Aside0.mk hl3
  have LEN := Aside0.mk len
  clear hb3 hl3 len
  go_enter Tryz.func16, Tryz.ntmps16
  go_wp2_with fail
  go_loopw [4] (fun v4 wr => ∃ k : Nat, v4 = .int .i64 k ∧ k ≤ s.size ∧ Aside0 (LiesT wr w.heap.size (lowTo k s.data.toList)) ∧ Aside0 (Below w.heap.size w wr)) (fun v4 wr => s.size - (match v4 with | .int _ n => n.toNat | _ => 0))
  case atStart => exact ⟨0, rfl, Nat.zero_le _, L3, B3⟩
  case round =>
    obtain ⟨k, rfl, hk, HL, HB⟩ := hrel
    by_cases hlt : k < s.size
    · have hk' : k < s.data.toList.length := by rw [LEN.out]; exact hlt
      have hk2 : k < (lowTo k s.data.toList).length := by rw [lowTo_len]; exact hk'
      have hcell := HL.out.cell k hk2
      rw [lowTo_at hk'] at hcell
      have hfrz := HL.out.frozen k hk2
      have hi : (k : Int) < (s.size : Int) := by omega
      have hw : wrap64 ((k : Int) + 1) = ((k + 1 : Nat) : Int) := by unfold wrap64; omega
      have HN := Aside0.mk (fun h => lowTo_same (l := s.data.toList) hk' h)
      have HU := Aside0.mk (lowTo_next (l := s.data.toList) hk')
      have HS := fun (ci : Int) hc => HL.out.set k hk2 (Lib.lowerB (s.data.toList[k]'hk')) ci hc
      have up := Lib.isUpperB_int (s.data.toList[k]'hk')
      have lo := Lib.lowerB_int (s.data.toList[k]'hk')
      generalize s.data.toList[k]'hk' = c at *
      by_cases hu : Lib.isUpperB c = true
      · rw [hu] at up
        have up2 := up.symm
        rw [Bool.and_eq_true, decide_eq_true_eq, decide_eq_true_eq] at up2
        have u1 := up2.1
        have u2 := up2.2
        have hw8 : IntKind.u8.wrap ((c.toNat : Int) + 32) = (c.toNat : Int) + 32 := by
          simp [IntKind.wrap, IntKind.bits, IntKind.signed]
          omega
        have SET := Aside0.mk (HS ((c.toNat : Int) + 32) (lo hu).symm)
        clear HS lo up up2
        go_wp2_with fail
        refine ⟨⟨k + 1, ?_, by omega, ?_, ?_⟩, ?_⟩
        · go_num
        · rw [← HU.out]
          exact SET
        · exact Aside0.mk (HB.out.setCell (p := ⟨w.heap.size, k, none⟩) (Nat.le_refl _) _)
        · simp
          omega
      · have hu' : Lib.isUpperB c = false := by simpa using hu
        rw [hu'] at up
        have nu : ¬ ((65 : Int) ≤ (c.toNat : Int) ∧ (c.toNat : Int) ≤ 90) := by
          have := up.symm
          simpa using this
        have HE := Aside0.mk (HN.out hu')
        clear HS lo up
        go_wp2_with fail
        all_goals first
          | (exfalso; omega)
          | exact ⟨⟨k + 1, by go_num, by omega, Aside0.mk (HE.out ▸ HL.out), HB⟩, by simp; omega⟩
    · obtain rfl : k = s.size := by omega
      have row := HL.out
      rw [← LEN.out, lowTo_all] at row
      have ll : (Lib.toLowerA s.data.toList).length = s.size := by unfold Lib.toLowerA; rw [List.length_map, LEN.out]
      have C := row.row (by rw [ll]; omega)
      rw [ll] at C
      have cs := Kd.C_string (P := Tryz.prog) (src := 60) (e := 5) (dst := 9) (c := cp) Tryz.underlying60 Tryz.underlying5 Tryz.underlying9 C
      rw [strOf_low] at cs
      have hi : ¬ (s.size : Int) < (s.size : Int) := by omega
      clear row C
      go_wp2_with fail
      go_ret
      exact ⟨rfl, HB.out⟩
def spec_lower.f (a0 : ByteArray) : Option ByteArray := if a0.size ≤ 100000 then some (low a0) else none
theorem spec_lower.calls (a0 : ByteArray) (r : ByteArray) (w : World) (h : spec_lower.f a0 = some r) :
    Calls Tryz.prog 16 #[.string a0] w fun e w' => e = .returned (.string r) ∧ Below w.heap.size w w' := by
  unfold spec_lower.f at h
  split at h
  · next hc =>
    obtain rfl := Option.some.inj h
    exact specLower_calls a0 w hc
  · exact absurd h (by simp)
end Go.Proofs.YtdpeadckejhloaaGreatDoor.Giv

namespace Go.Proofs.YtdpeadckejhloaaGreatDoor.Giv
open Go.RowKit Go.Proofs.YtdpeadckejhloaaGreatDoorW.PrintWords Go.Proofs.YtdpeadckejhloaaGreatDoorW.PrintLast Go.Proofs.YtdpeadckejhloaaGreatDoor.Pk Go.Proofs.YtdpeadckejhloaaGreatDoor.Ord
set_option linter.unusedVariables false
set_option linter.unusedSimpArgs false

theorem cut_app (c : UInt8) : ∀ (a b : List UInt8), (a.any (fun x => x == c)) = false → Cut.cutAt c (a ++ c :: b) = a :: Cut.cutAt c b
  | [], b, _ => by
    rw [List.nil_append]
    conv => lhs; unfold Cut.cutAt
    rw [if_pos rfl]
  | x :: a, b, h => by
    rw [List.any_cons, Bool.or_eq_false_iff] at h
    have e := cut_app c a b h.2
    have hx : ¬ x = c := by simpa using h.1
    rw [List.cons_append]
    conv => lhs; unfold Cut.cutAt
    rw [if_neg hx, e]
theorem any_next (c x : UInt8) (l : List UInt8) (f k : Nat) (hf : f ≤ k) (hk : l[k]? = some x) (h : ((l.drop f).take (k - f)).any (fun x => x == c) = false) (hx : (x == c) = false) : ((l.drop f).take (k + 1 - f)).any (fun x => x == c) = false := by
  have e : (l.drop f)[k - f]? = some x := by rw [List.getElem?_drop, show f + (k - f) = k by omega]; exact hk
  rw [show k + 1 - f = (k - f) + 1 by omega, List.take_add_one, e, List.any_append, h]
  simp [hx]
theorem cut_at (c : UInt8) (l : List UInt8) (f k : Nat) (hf : f ≤ k) (hk : l[k]? = some c) (h : ((l.drop f).take (k - f)).any (fun x => x == c) = false) : Cut.cutAt c (l.drop f) = (l.drop f).take (k - f) :: Cut.cutAt c (l.drop (k + 1)) := by
  have e : l.drop f = (l.drop f).take (k - f) ++ c :: l.drop (k + 1) := by
    have a := (List.take_append_drop (k - f) (l.drop f)).symm
    rw [List.drop_drop, show f + (k - f) = k by omega] at a
    obtain ⟨hlt, hc⟩ := List.getElem?_eq_some_iff.1 hk
    rw [List.drop_eq_getElem_cons hlt, hc] at a
    exact a
  conv => lhs; rw [e]
  exact cut_app c _ _ h
theorem cut_infoStr : (Tryz.prog.info? 9).map (fun i => (i.zero, i.size, i.bytes)) = some (some (.string ⟨#[]⟩), 1, 16) := by kernel_rfl
theorem isPoint_calls (x : Int) (w : World) : Calls Tryz.prog 48 #[.int .u8 x] w fun e w' => e = .returned (.bool (x == 46)) ∧ w' = w := by
  go_enter Tryz.func48, Tryz.ntmps48
  go_wp2
  go_ret
  exact ⟨rfl, rfl⟩
theorem cut_piece (s : ByteArray) (f k : Nat) (l : List UInt8) (e : (s.toList.drop f).take (k - f) = l) : s.extract f k = bs l := by
  rw [← e]
  exact bs_eq (ext_toList s f k)
set_option maxRecDepth 100000 in
set_option maxHeartbeats 4000000 in
theorem cut_calls (s : ByteArray) (hs : s.size ≤ 40000) (w : World) :
    Calls Tryz.prog 47 #[.string s, .func (.func 48) #[] #[]] w fun e w' => ∃ v0_ : Value, e = .returned v0_ ∧ Kd.R Kd.string 9 w' w.heap.size (fun _ => True) v0_ ((Cut.cutAt 46 s.toList).map bs) ∧ Below w.heap.size w w' := by
  obtain ⟨full, ef⟩ : ∃ x, x = (Cut.cutAt 46 s.toList).map bs := ⟨_, rfl⟩
  have lf : full.length ≤ 40001 := by
    rw [ef, List.length_map]
    have := (Cut.cutAt_sizes 46 s.toList).1
    rw [len_toList] at this
    omega
  rw [← ef]
  go_enter Tryz.func47, Tryz.ntmps47
  go_wp2_with fail
  go_loopw [5, 6, 7] (fun v5 v6 v7 wr => ∃ (f k : Nat) (out : List ByteArray), v6 = .int .i64 f ∧ v7 = .int .i64 k ∧ f ≤ k ∧ Below w.heap.size w wr ∧ Kd.R Kd.string 9 wr w.heap.size (fun _ => True) v5 out ∧ ((k ≤ s.size ∧ out ++ (Cut.cutAt 46 (s.toList.drop f)).map bs = full ∧ ((s.toList.drop f).take (k - f)).any (fun x => x == 46) = false) ∨ (k = s.size + 1 ∧ out = full))) (fun v5 v6 v7 wr => s.size + 1 - (intOf v7).toNat)
  case atStart => exact ⟨0, 0, [], rfl, rfl, Nat.le_refl _, Below.refl _ _, Kd.R_nil _ _ _ _ _, Or.inl ⟨Nat.zero_le _, by rw [List.drop_zero, List.nil_append, ef], by simp⟩⟩
  case round =>
    obtain ⟨f, k, out, rfl, rfl, hfk, hbw, ho, hq⟩ := hrel
    have BL := Aside0.mk hbw
    have BS := Aside0.mk hbw.size
    have HO := Aside0.mk ho
    rcases hq with ⟨hk, hout, hno⟩ | ⟨rfl, hout⟩
    · have lo : out.length + 1 ≤ full.length := by
        rw [← hout, List.length_append, List.length_map]
        have := List.length_pos_iff.2 (Cut.cutAt_ne 46 (s.toList.drop f))
        omega
      have lim := Aside0.mk (show (out.length + 1) * 16 ≤ 140737488355328 by omega)
      have f4 : (k : Int) ≤ (s.size : Int) := Int.ofNat_le.2 hk
      have f5 : (f : Int) ≤ (k : Int) := Int.ofNat_le.2 hfk
      have f6 : f ≤ k := hfk
      have f7 : k ≤ s.size := hk
      have wk : wrap64 ((k : Int) + 1) = ((k + 1 : Nat) : Int) := Pk.wr k (by omega)
      by_cases he : k = s.size
      · have g1 : ((k : Int) == (s.size : Int)) = true := beq_iff_eq.2 (by rw [he])
        have pc := cut_piece s f k _ (by rw [he, List.take_of_length_le (by rw [List.length_drop, len_toList]; omega)])
        have cn := (Cut.cutAt_no 46 (s.toList.drop f) (by
          rw [he, List.take_of_length_le (by rw [List.length_drop, len_toList]; omega)] at hno
          exact hno)).1
        rw [cn] at hout
        have Q := Aside0.mk (show out ++ [s.extract f k] = full by rw [pc]; exact hout)
        clear ho hbw hout hno cn pc lo
        have RF := Aside0.mk he
        clear he
        go_wp2_with (first | ((with_reducible refine gate_builtin (b := .append) (xs := #[.tmp 25, .tmp 30]) rfl ?_); at_builtin; refine Kd.R_append Kd.string (w0 := w) w.heap.size rfl (.tmp 25) (.tmp 30) 57 9 (.string ⟨#[]⟩) 16 rfl Tryz.underlying57 cut_infoStr rfl (by decide) (by omega) u5 out (s.extract f k) [.string (s.extract f k)] (fun _ => True) (fun _ => False) rfl rfl ?aP (fun _ hk => hk.elim) ?aF ?aO ?aB ?aS ?aL ?_; (case aP => exact rfl); (case aF => exact (fun _ _ => trivial)); (case aO => exact HO.out); (case aB => exact BL.out); (case aS => exact BS.out); (case aL => exact lim.out); intro v5 w5 ho hb hg hat; have HO := Aside0.mk ho; have BL2 := Aside0.mk hb; clear ho hb hg hat))
        refine ⟨⟨k + 1, k + 1, _, rfl, rfl, Nat.le_refl _, BL2.out, HO.out, Or.inr ⟨by rw [RF.out], Q.out⟩⟩, by simp only [intOf]; omega⟩
      · have hlt : k < s.size := by omega
        have g1 : ((k : Int) == (s.size : Int)) = false := beq_eq_false_iff_ne.2 (by omega)
        have h2 : (k : Int) < (s.size : Int) := Int.ofNat_lt.2 hlt
        have b := bt_nat s k hlt
        by_cases hc : s[k]'hlt = 46
        · have hc' : (s.toList)[k]? = some 46 := by rw [List.getElem?_eq_getElem (by rw [len_toList]; exact hlt), getElem_toList s k hlt, hc]
          have pc := cut_piece s f k _ rfl
          have ca := cut_at 46 s.toList f k hfk hc' hno
          rw [ca, List.map_cons, ← pc] at hout
          have Q := Aside0.mk (show (out ++ [s.extract f k]) ++ (Cut.cutAt 46 (s.toList.drop (k + 1))).map bs = full by rw [List.append_assoc]; exact hout)
          have ct : ∀ w', Calls Tryz.prog 48 #[.int .u8 46] w' fun e w'' => e = .returned (.bool true) ∧ w'' = w' := fun w' => isPoint_calls 46 w'
          clear ho hbw hout hno ca pc lo hc' b he
          go_wp2_with (first | (go_at_call 48; (with_reducible refine (ct _).mono ?_); rintro e w1 ⟨rfl, rfl⟩) | ((with_reducible refine gate_builtin (b := .append) (xs := #[.tmp 25, .tmp 30]) rfl ?_); at_builtin; refine Kd.R_append Kd.string (w0 := w) w.heap.size rfl (.tmp 25) (.tmp 30) 57 9 (.string ⟨#[]⟩) 16 rfl Tryz.underlying57 cut_infoStr rfl (by decide) (by omega) u5 out (s.extract f k) [.string (s.extract f k)] (fun _ => True) (fun _ => False) rfl rfl ?aP (fun _ hk => hk.elim) ?aF ?aO ?aB ?aS ?aL ?_; (case aP => exact rfl); (case aF => exact (fun _ _ => trivial)); (case aO => exact HO.out); (case aB => exact BL.out); (case aS => exact BS.out); (case aL => exact lim.out); intro v5 w5 ho hb hg hat; have HO := Aside0.mk ho; have BL2 := Aside0.mk hb; clear ho hb hg hat))
          refine ⟨⟨k + 1, k + 1, _, rfl, rfl, Nat.le_refl _, BL2.out, HO.out, Or.inl ⟨hlt, Q.out, by simp⟩⟩, by simp only [intOf]; omega⟩
        · have hx : ((s[k]'hlt) == (46 : UInt8)) = false := beq_eq_false_iff_ne.2 hc
          have N := Aside0.mk (any_next 46 _ s.toList f k hfk (by rw [List.getElem?_eq_getElem (by rw [len_toList]; exact hlt), getElem_toList s k hlt]) hno hx)
          have Q := Aside0.mk hout
          have bn : (((s[k]'hlt).toNat : Int) == 46) = false := by
            refine beq_eq_false_iff_ne.2 (fun h => hc (UInt8.toNat_inj.1 ?_))
            have : (s[k]'hlt).toNat = 46 := by omega
            exact this
          have ct : ∀ w', Calls Tryz.prog 48 #[.int .u8 (((s[k]'hlt).toNat : Nat) : Int)] w' fun e w'' => e = .returned (.bool false) ∧ w'' = w' := fun w' => (isPoint_calls (((s[k]'hlt).toNat : Nat) : Int) w').mono (by rintro e w2 ⟨rfl, rfl⟩; rw [bn]; exact ⟨rfl, rfl⟩)
          clear ho hbw hout hno lo bn hx b he
          go_wp2_with (first | (go_at_call 48; (with_reducible refine (ct _).mono ?_); rintro e w1 ⟨rfl, rfl⟩))
          refine ⟨⟨f, k + 1, _, rfl, rfl, Nat.le_succ_of_le hfk, BL.out, HO.out, Or.inl ⟨hlt, Q.out, N.out⟩⟩, by simp only [intOf]; omega⟩
    · have f4 : ¬ ((s.size + 1 : Nat) : Int) ≤ (s.size : Int) := by omega
      rw [hout, ef] at ho
      have HO := Aside0.mk ho
      clear ho hbw
      go_wp2_with fail
      go_ret
      exact ⟨_, rfl, HO.out, BL.out⟩
def spec_cut_isPoint.f (a0 : ByteArray) : Option (List ByteArray) := if a0.size ≤ 40000 then some ((Cut.cutAt 46 a0.toList).map bs) else none
theorem spec_cut_isPoint.calls (a0 : ByteArray) (r : List ByteArray) (w : World) (h : spec_cut_isPoint.f a0 = some r) :
    Calls Tryz.prog 47 #[.string a0, .func (.func 48) #[] #[]] w fun e w' => ∃ v0_ : Value, e = .returned (v0_) ∧ Kd.R Kd.string 9 w' w.heap.size (fun _ => True) v0_ r ∧ Below w.heap.size w w' := by
  unfold spec_cut_isPoint.f at h
  split at h
  · next hc =>
    obtain rfl := Option.some.inj h
    exact cut_calls a0 hc w
  · exact absurd h (by simp)
end Go.Proofs.YtdpeadckejhloaaGreatDoor.Giv

namespace Go.Proofs.YtdpeadckejhloaaGreatDoor.Giv
open Go.RowKit Go.Proofs.YtdpeadckejhloaaGreatDoorW.PrintWords Go.Proofs.YtdpeadckejhloaaGreatDoorW.PrintLast Go.Proofs.YtdpeadckejhloaaGreatDoor.Pk Go.Proofs.YtdpeadckejhloaaGreatDoor.Ord
set_option linter.unusedVariables false
set_option linter.unusedSimpArgs false

theorem plc_at (s : ByteArray) (f : UInt8 → Bool) (p : Nat) (h : p < s.size) (hno : (s.toList.take p).any f = false) (hy : f (s[p]'h) = true) : placeOf f s.toList = p := by
  have e : s.toList = s.toList.take p ++ (s[p]'h :: s.toList.drop (p + 1)) := by rw [← drop_at s p h, List.take_append_drop]
  unfold placeOf
  have ha : s.toList.any f = true := by
    rw [e, List.any_append]
    simp [hy]
  rw [if_pos ha, e, List.findIdx_append]
  have hl : (s.toList.take p).findIdx f = (s.toList.take p).length := List.findIdx_eq_length.2 (by simpa using hno)
  rw [hl, if_neg (by omega), List.findIdx_cons, hy, List.length_take, len_toList]
  simp
  omega
theorem plc_no (s : ByteArray) (f : UInt8 → Bool) (hno : s.toList.any f = false) : placeOf f s.toList = -1 := by
  unfold placeOf
  rw [if_neg (by simp [hno])]

def plus (x : UInt8) : Bool := x == 43
set_option maxRecDepth 100000 in
set_option maxHeartbeats 4000000 in
theorem indexOf_calls (s : ByteArray) (hs : s.size ≤ 40000) (w : World) :
    Calls Tryz.prog 46 #[.string s, .int .u8 43] w fun e w' => e = .returned (.int .i64 (placeOf plus s.toList)) ∧ w' = w := by
  go_enter Tryz.func46, Tryz.ntmps46
  go_wp2_with fail
  go_loopw [5] (fun v5 wr => wr = w ∧ ∃ (k : Nat), v5 = .int .i64 k ∧ k ≤ s.size ∧ (s.toList.take k).any plus = false) (fun v5 wr => s.size - (intOf v5).toNat)
  case atStart => exact ⟨rfl, 0, rfl, Nat.zero_le _, by simp⟩
  case round =>
    obtain ⟨rfl, k, rfl, hk, hno⟩ := hrel
    by_cases hlt : k < s.size
    · have f4 : (k : Int) < (s.size : Int) := Int.ofNat_lt.2 hlt
      by_cases hc : s[k]'hlt = 43
      · have pl := Aside0.mk (plc_at s plus k hlt hno (by unfold plus; rw [hc]; rfl))
        clear hno
        go_wp2_with fail
        rw [pl.out]
        go_ret
        exact ⟨rfl, rfl⟩
      · have hx : plus (s[k]'hlt) = false := by unfold plus; exact beq_eq_false_iff_ne.2 hc
        have nx := Aside0.mk (show (s.toList.take (k + 1)).any plus = false by
          rw [take_next' s k hlt, List.any_append, hno]
          simp [hx])
        have g1 : (((s[k]'hlt).toNat : Int) == 43) = false := by
          refine beq_eq_false_iff_ne.2 (fun h => hc (UInt8.toNat_inj.1 ?_))
          have : (s[k]'hlt).toNat = 43 := by omega
          exact this
        clear hno hx hc
        go_wp2_with fail
        refine ⟨⟨trivial, k + 1, rfl, hlt, nx.out⟩, by simp only [intOf]; omega⟩
    · have e : k = s.size := by omega
      subst e
      have f4 : ¬ (s.size : Int) < (s.size : Int) := by omega
      rw [List.take_of_length_le (by rw [len_toList]; exact Nat.le_refl _)] at hno
      have pl := Aside0.mk (plc_no s plus hno)
      clear hno
      go_wp2_with fail
      rw [pl.out]
      go_ret
      exact ⟨rfl, rfl⟩
theorem sp_plc (c : UInt8) (l : List UInt8) (h : (l.any (fun x => x == c)) = true) : placeOf (fun x => x == c) l = ((Cut.upTo c l).length : Int) := by
  unfold placeOf
  rw [if_pos h]
  congr 1
  induction l with
  | nil => simp at h
  | cons x r ih =>
    unfold Cut.upTo
    rw [List.findIdx_cons]
    by_cases hx : x = c
    · rw [List.takeWhile_cons_of_neg (by simp [hx])]
      simp [hx]
    · rw [List.takeWhile_cons_of_pos (by simp [hx])]
      rw [List.any_cons] at h
      have hr : (r.any fun x => x == c) = true := by simpa [hx] using h
      have := ih hr
      unfold Cut.upTo at this
      have hb : (x == c) = false := by simpa using hx
      rw [hb, List.length_cons]
      simp [this]
/-- What stands behind the numbers, cut at points; nothing where nothing stands there. -/
def liked (l : List UInt8) : List ByteArray := if Cut.core l = [] then [] else (Cut.cutAt 46 (Cut.core l)).map bs
theorem like_end (s T : ByteArray) (hs : s.size ≤ 40000) (hT : T.toList = Cut.core s.toList) (hne : Cut.core s.toList ≠ []) (w : World) :
    Calls Tryz.prog 47 #[.string T, .func (.func 48) #[] #[]] w fun e w' => ∃ v0_ : Value, e = .returned v0_ ∧ Kd.R Kd.string 9 w' w.heap.size (fun _ => True) v0_ (liked s.toList) ∧ Below w.heap.size w w' := by
  have hz : T.size ≤ 40000 := by
    have := Cut.core_len s.toList
    rw [← hT, len_toList, len_toList] at this
    omega
  refine (cut_calls T hz w).mono ?_
  rintro e w' ⟨v, rfl, h, d⟩
  refine ⟨v, rfl, ?_, d⟩
  unfold liked
  rw [if_neg hne, ← hT]
  exact h
set_option maxRecDepth 100000 in
set_option maxHeartbeats 4000000 in
theorem like_calls (s : ByteArray) (hs : s.size ≤ 40000) (w : World) :
    Calls Tryz.prog 38 #[.string s] w fun e w' => ∃ v0_ : Value, e = .returned v0_ ∧ Kd.R Kd.string 9 w' w.heap.size (fun _ => True) v0_ (liked s.toList) ∧ Below w.heap.size w w' := by
  have ce : ∀ T : ByteArray, T.toList = Cut.core s.toList → T.toList.isEmpty = false → ∀ w : World, Calls Tryz.prog 47 #[.string T, .func (.func 48) #[] #[]] w fun e w' => ∃ v0_ : Value, e = .returned v0_ ∧ Kd.R Kd.string 9 w' w.heap.size (fun _ => True) v0_ (liked s.toList) ∧ Below w.heap.size w w' := fun T h n w => like_end s T hs h (by
    intro c
    rw [← h] at c
    rw [c] at n
    exact absurd n (by decide)) w
  by_cases hp : s.toList.any plus = true
  · obtain ⟨m, em⟩ : ∃ m, m = (Cut.upTo 43 s.toList).length := ⟨_, rfl⟩
    have cy := (Cut.cutAt_yes 43 s.toList hp).2
    rw [← em] at cy
    have hm : m ≤ s.size := by have := cy.1; rw [len_toList] at this; omega
    have io : ∀ w', Calls Tryz.prog 46 #[.string s, .int .u8 43] w' fun e w'' => e = .returned (.int .i64 (m : Int)) ∧ w' = w'' := fun w' => by
      have := sp_plc 43 s.toList hp
      rw [← em] at this
      rw [← this]
      exact (indexOf_calls s hs w').mono (by rintro e w2 ⟨rfl, rfl⟩; exact ⟨rfl, rfl⟩)
    have up : (s.extract 0 m).toList = Cut.upTo 43 s.toList := by rw [ext_head]; exact cy.2
    have core : Cut.core s.toList = Cut.trim 45 (s.extract 0 m).toList := by unfold Cut.core; rw [up]
    have hz : (s.extract 0 m).size = m := by rw [ByteArray.size_extract]; omega
    have p1 : (0 : Int) ≤ (m : Int) := Int.natCast_nonneg m
    have p2 : (m : Int) ≤ (s.size : Int) := Int.ofNat_le.2 hm
    by_cases he : (s.extract 0 m).toList = []
    · have e1 : (s.extract 0 m).toList.isEmpty = true := by rw [he]; rfl
      have lk : liked s.toList = [] := by unfold liked; rw [core, he]; rfl
      clear hp up cy em hz core he ce
      rw [lk]
      go_enter Tryz.func38, Tryz.ntmps38
      go_wp2_with (first | (go_at_call 46; (with_reducible refine (io _).mono ?_); rintro e w1 ⟨rfl, rfl⟩))
      go_ret
      exact ⟨_, rfl, Kd.R_nil _ _ _ _ _, Below.refl _ _⟩
    · have h0 : 0 < (s.extract 0 m).size := by rw [← len_toList]; exact List.length_pos_iff.2 he
      have e1 : (s.extract 0 m).toList.isEmpty = false := by cases h : (s.extract 0 m).toList with | nil => exact absurd h he | cons => rfl
      have f1 : (0 : Int) < (m : Int) := by rw [hz] at h0; exact Int.ofNat_lt.2 h0
      have f2 : (1 : Int) ≤ (m : Int) := by omega
      have hcons : (s.extract 0 m).toList = (s.extract 0 m)[0]'h0 :: (s.extract 0 m).toList.drop 1 := by
        have := drop_at (s.extract 0 m) 0 h0
        rwa [List.drop_zero] at this
      by_cases hd : (s.extract 0 m)[0]'h0 = 45
      · have et : ((s.extract 0 m).extract 1 m).toList = Cut.core s.toList := by
          rw [show (s.extract 0 m).extract 1 m = (s.extract 0 m).extract 1 (s.extract 0 m).size by rw [hz], ext_all, core]
          conv => rhs; rw [hcons]
          unfold Cut.trim
          simp only
          rw [if_pos hd]
        by_cases hn : ((s.extract 0 m).extract 1 m).toList = []
        · have e2 : ((s.extract 0 m).extract 1 m).toList.isEmpty = true := by rw [hn]; rfl
          have lk : liked s.toList = [] := by unfold liked; rw [← et, hn]; rfl
          clear hp up cy em hz core he ce hn et hcons
          rw [lk]
          go_enter Tryz.func38, Tryz.ntmps38
          go_wp2_with (first | (go_at_call 46; (with_reducible refine (io _).mono ?_); rintro e w1 ⟨rfl, rfl⟩))
          go_ret
          exact ⟨_, rfl, Kd.R_nil _ _ _ _ _, Below.refl _ _⟩
        · have e2 : ((s.extract 0 m).extract 1 m).toList.isEmpty = false := by cases h : ((s.extract 0 m).extract 1 m).toList with | nil => exact absurd h hn | cons => rfl
          have cx := ce _ et e2
          clear hp up cy em hz core he ce hn et hcons
          go_enter Tryz.func38, Tryz.ntmps38
          go_wp2_with (first | (go_at_call 46; (with_reducible refine (io _).mono ?_); rintro e w1 ⟨rfl, rfl⟩) | (go_at_call 47; (with_reducible refine (cx _).mono ?_); rintro e w1 ⟨v, rfl, hr, hb⟩; have HR := Aside0.mk hr; have HB := Aside0.mk hb; clear hr hb))
          go_ret
          exact ⟨_, rfl, HR.out, HB.out⟩
      · have g1 : ((((s.extract 0 m)[0]'h0).toNat : Int) == 45) = false := by
          refine beq_eq_false_iff_ne.2 (fun h => hd (UInt8.toNat_inj.1 ?_))
          have : ((s.extract 0 m)[0]'h0).toNat = 45 := by omega
          exact this
        have c2 : (s.extract 0 m).toList = Cut.core s.toList := by
          rw [core]
          conv => rhs; rw [hcons]
          unfold Cut.trim
          simp only
          rw [if_neg hd, ← hcons]
        have cx := ce (s.extract 0 m) c2 e1
        clear hp up cy em hz core he hd c2 ce hcons
        go_enter Tryz.func38, Tryz.ntmps38
        go_wp2_with (first | (go_at_call 46; (with_reducible refine (io _).mono ?_); rintro e w1 ⟨rfl, rfl⟩) | (go_at_call 47; (with_reducible refine (cx _).mono ?_); rintro e w1 ⟨v, rfl, hr, hb⟩; have HR := Aside0.mk hr; have HB := Aside0.mk hb; clear hr hb))
        go_ret
        exact ⟨_, rfl, HR.out, HB.out⟩
  · have hp' : s.toList.any plus = false := Bool.eq_false_iff.2 hp
    have io : ∀ w', Calls Tryz.prog 46 #[.string s, .int .u8 43] w' fun e w'' => e = .returned (.int .i64 (-1)) ∧ w' = w'' := fun w' => by
      rw [← plc_no s plus hp']
      exact (indexOf_calls s hs w').mono (by rintro e w2 ⟨rfl, rfl⟩; exact ⟨rfl, rfl⟩)
    have up := (Cut.cutAt_no 43 s.toList hp').2
    have core : Cut.core s.toList = Cut.trim 45 s.toList := by unfold Cut.core; rw [up]
    by_cases he : s.toList = []
    · have e1 : s.toList.isEmpty = true := by rw [he]; rfl
      have lk : liked s.toList = [] := by unfold liked; rw [core, he]; rfl
      clear hp hp' up core he ce
      rw [lk]
      go_enter Tryz.func38, Tryz.ntmps38
      go_wp2_with (first | (go_at_call 46; (with_reducible refine (io _).mono ?_); rintro e w1 ⟨rfl, rfl⟩))
      go_ret
      exact ⟨_, rfl, Kd.R_nil _ _ _ _ _, Below.refl _ _⟩
    · have h0 : 0 < s.size := by rw [← len_toList]; exact List.length_pos_iff.2 he
      have e1 : s.toList.isEmpty = false := by cases h : s.toList with | nil => exact absurd h he | cons => rfl
      have f1 : (0 : Int) < (s.size : Int) := Int.ofNat_lt.2 h0
      have f2 : (1 : Int) ≤ (s.size : Int) := by omega
      have hcons : s.toList = s[0]'h0 :: s.toList.drop 1 := by
        have := drop_at s 0 h0
        rwa [List.drop_zero] at this
      by_cases hd : s[0]'h0 = 45
      · have et : (s.extract 1 s.size).toList = Cut.core s.toList := by
          rw [ext_all, core]
          conv => rhs; rw [hcons]
          unfold Cut.trim
          simp only
          rw [if_pos hd]
        by_cases hn : (s.extract 1 s.size).toList = []
        · have e2 : (s.extract 1 s.size).toList.isEmpty = true := by rw [hn]; rfl
          have lk : liked s.toList = [] := by unfold liked; rw [← et, hn]; rfl
          clear hp hp' up core he ce hn et hcons
          rw [lk]
          go_enter Tryz.func38, Tryz.ntmps38
          go_wp2_with (first | (go_at_call 46; (with_reducible refine (io _).mono ?_); rintro e w1 ⟨rfl, rfl⟩))
          go_ret
          exact ⟨_, rfl, Kd.R_nil _ _ _ _ _, Below.refl _ _⟩
        · have e2 : (s.extract 1 s.size).toList.isEmpty = false := by cases h : (s.extract 1 s.size).toList with | nil => exact absurd h hn | cons => rfl
          have cx := ce _ et e2
          clear hp hp' up core he ce hn et hcons
          go_enter Tryz.func38, Tryz.ntmps38
          go_wp2_with (first | (go_at_call 46; (with_reducible refine (io _).mono ?_); rintro e w1 ⟨rfl, rfl⟩) | (go_at_call 47; (with_reducible refine (cx _).mono ?_); rintro e w1 ⟨v, rfl, hr, hb⟩; have HR := Aside0.mk hr; have HB := Aside0.mk hb; clear hr hb))
          go_ret
          exact ⟨_, rfl, HR.out, HB.out⟩
      · have g1 : (((s[0]'h0).toNat : Int) == 45) = false := by
          refine beq_eq_false_iff_ne.2 (fun h => hd (UInt8.toNat_inj.1 ?_))
          have : (s[0]'h0).toNat = 45 := by omega
          exact this
        have c2 : s.toList = Cut.core s.toList := by
          rw [core]
          conv => rhs; rw [hcons]
          unfold Cut.trim
          simp only
          rw [if_neg hd, ← hcons]
        have cx := ce s c2 e1
        clear hp hp' up core he hd c2 ce hcons
        go_enter Tryz.func38, Tryz.ntmps38
        go_wp2_with (first | (go_at_call 46; (with_reducible refine (io _).mono ?_); rintro e w1 ⟨rfl, rfl⟩) | (go_at_call 47; (with_reducible refine (cx _).mono ?_); rintro e w1 ⟨v, rfl, hr, hb⟩; have HR := Aside0.mk hr; have HB := Aside0.mk hb; clear hr hb))
        go_ret
        exact ⟨_, rfl, HR.out, HB.out⟩
def spec_likeIdentifiers.f (a0 : ByteArray) : Option (List ByteArray) := if a0.size ≤ 40000 then some (liked a0.toList) else none
theorem spec_likeIdentifiers.calls (a0 : ByteArray) (r : List ByteArray) (w : World) (h : spec_likeIdentifiers.f a0 = some r) :
    Calls Tryz.prog 38 #[.string a0] w fun e w' => ∃ v0_ : Value, e = .returned (v0_) ∧ Kd.R Kd.string 9 w' w.heap.size (fun _ => True) v0_ r ∧ Below w.heap.size w w' := by
  unfold spec_likeIdentifiers.f at h
  split at h
  · next hc =>
    obtain rfl := Option.some.inj h
    exact like_calls a0 hc w
  · exact absurd h (by simp)
end Go.Proofs.YtdpeadckejhloaaGreatDoor.Giv

namespace Go.Proofs.YtdpeadckejhloaaGreatDoor.Giv
open Go.RowKit
set_option linter.unusedVariables false

theorem run_assert_is {P : Program} {t : TypeId} {fs : Array Field} (h : P.underlying t = some (.struct fs)) (xT : TypeId) (v : Value) (w : World) : (Instr.typeAssert (.iface t v) xT t true).run P w = .ok (.tuple #[v, .bool true]) w := by
  simp [Instr.typeAssert, run_underlying h, go_sem, Result.andThen]
theorem run_nil_nil {P : Program} {ti : TypeId} {ms : Array (String × TypeId)} (hi : P.underlying ti = some (.interface ms)) (w : World) : (binOp .eql ti .nilIface .nilIface).run P w = .ok (.bool true) w := by
  have h : ∀ d : Nat, (Op.equalIn (d + 1) ti .nilIface .nilIface).run P w = .ok true w := fun d => by simp [Op.equalIn, run_underlying hi]
  simp only [binOp]
  simp [show Op.equal ti .nilIface .nilIface = Op.equalIn (9999 + 1) ti .nilIface .nilIface from rfl, h]
theorem bel_drewN {B : Nat} {a w : World} (h : Below B a w) (n : Nat) : Below B a (w.drewN n) := ⟨h.os, h.tape, h.output, h.size, h.block⟩
end Go.Proofs.YtdpeadckejhloaaGreatDoor.Giv
