/- Contracts by hand: a builder that is grown ahead, and a byte written to it. -/
import Derived.Test.YtchbfjjeodnocaaDoorGivLg
import Derived.Lib.MakeNoZero
import Derived.Lib.Case
import Derived.Laws.IdiomCopy
import Derived.Lib.FrozenHead2
namespace Go.Proofs.YtchbfjjeodnocaaDoor.Giv
open Go.RowKit
set_option linter.unusedSimpArgs false
set_option linter.unusedVariables false

set_option maxHeartbeats 2000000 in
set_option maxRecDepth 100000 in
theorem Grow_fresh (b n : Nat) (w : World) (hbk : w.heap[b]? = some (.cells #[.pointer none, .slice none 0 0] 195 (0, 0))) (base : Nat) (hb : base ≤ b) (hn : n ≤ 281474976710656) :
    Calls Tryd.prog 155 #[.pointer (some ⟨b, 0, none⟩), .int .i64 n] w fun e w' => e = .returned (.tuple #[]) ∧ (∃ v, BV b base v [] w') ∧ Below base w w' := by
  have hbk1 : (w.setCell ⟨b, 0, none⟩ (.pointer (some ⟨b, 0, none⟩))).heap[b]? = some (.cells #[.pointer (some ⟨b, 0, none⟩), .slice none 0 0] 195 (0, 0)) := by
    simp [World.setCell, Array.getElem?_modify, hbk]
  have c1 : (w.setCell ⟨b, 0, none⟩ (.pointer (some ⟨b, 0, none⟩))).cell? ⟨b, 1, none⟩ = some (.slice none 0 0) := by
    rw [Lib.cell_of_heap hbk1]
    rfl
  have c1' : (w.setCell ⟨b, 0, none⟩ (.pointer (some ⟨b, 0, none⟩))).drew.cell? ⟨b, 1, none⟩ = some (.slice none 0 0) := c1
  have hb1 : Below base w (w.setCell ⟨b, 0, none⟩ (.pointer (some ⟨b, 0, none⟩))) := (Below.refl base w).setCell (p := ⟨b, 0, none⟩) hb _
  have hU : BV b base (.slice none 0 0) [] (w.setCell ⟨b, 0, none⟩ (.pointer (some ⟨b, 0, none⟩))) := ⟨⟨_, .inr rfl, hbk1⟩, World.ownsRowF_nil _ _ _ _⟩
  go_enter Tryd.func155, Tryd.ntmps155
  go_wp2_with (go_at_call 179; refine (copyCheck_fresh b w (by rw [Lib.cell_of_heap hbk]; rfl) (by simp [World.shape?, hbk]) (Lib.frozen_of_heap hbk 0)).mono ?_; rintro e w' ⟨rfl, rfl⟩)
  go_region
  all_goals go_wp2_with (go_at_call 180; refine (grow_fresh b n (w.setCell ⟨b, 0, none⟩ (.pointer (some ⟨b, 0, none⟩))).drew hbk1 base hb hn).mono ?_; rintro e w' ⟨rfl, h1, h2⟩)
  all_goals first
    | (go_end0; exact ⟨rfl, h1, hb1.drew.trans h2⟩)
    | (go_end0; exact ⟨rfl, ⟨_, hU⟩, hb1.drew⟩)
set_option maxHeartbeats 4000000 in
set_option maxRecDepth 100000 in
theorem writeByte_calls (b base : Nat) (v : Value) (bs : List Value) (c : Int) (w : World) (h : BV b base v bs w) (hlen : bs.length + 1 ≤ 140737488355328) (hBw : base ≤ w.heap.size) :
    Calls Tryd.prog 157 #[.pointer (some ⟨b, 0, none⟩), .int .u8 c] w fun e w' => e = .returned .nilIface ∧ ∃ v', BV b base v' (bs ++ [.int .u8 c]) w' ∧ Fr (BS b v) w w' := by
  have hne := h.ne
  obtain ⟨i0, hi, hz0, hz1, hz2⟩ := info_parts infoByteB
  go_enter Tryd.func157, Tryd.ntmps157
  go_wp2_with (go_at_call 179; refine (copyCheck_calls b base v bs _ h).mono ?_)
  rintro e w1 ⟨rfl, hbk, h1, hf1⟩
  have hlt := h1.lt
  obtain ⟨_, hown⟩ := h1
  have c0 : w1.cell? ⟨b, 0, none⟩ = some (.pointer (some ⟨b, 0, none⟩)) := by rw [Lib.cell_of_heap hbk]; rfl
  have c1 : w1.cell? ⟨b, 1, none⟩ = some v := by rw [Lib.cell_of_heap hbk]; rfl
  go_wp2_with (at_builtin; refine wpList_append_ownF _ rfl _ _ 145 rfl base 5 i0 (.int .u8 0) 1 1 Tryd.underlying145 hi hz0 hz1 hz2 rfl (by decide) _ _ _ rfl (hown.alloc _) ⟨w1.heap.size, 0, none⟩ 1 1 [.int .u8 c] rfl rfl ?c1 ?c2 ?c3 ?c4 ?c5 ?_)
  case c1 =>
    intro j u hj
    match j, hj with
    | 0, hj => simp at hj; subst hj; simp [Addr.add]
  case c2 => intro u hu; simp at hu; subst hu; rfl
  case c3 => unfold maxLen; omega
  case c4 => omega
  case c5 => have := hf1.size; simp; omega
  intro v' w2 hown' hgrow _
  have hb2 : w2.heap[b]? = some (.cells #[.pointer (some ⟨b, 0, none⟩), v] 195 (0, 0)) := by
    rw [hgrow.block b (by simp; omega) (fun e => hne e.symm), Lib.alloc_old w1 _ b hlt]
    exact hbk
  have d0 : w2.cell? ⟨b, 0, none⟩ = some (.pointer (some ⟨b, 0, none⟩)) := by rw [Lib.cell_of_heap hb2]; rfl
  have d1 : w2.cell? ⟨b, 1, none⟩ = some v := by rw [Lib.cell_of_heap hb2]; rfl
  have f1 : w2.frozen? ⟨b, 1, none⟩ = false := Lib.frozen_of_heap hb2 1
  obtain ⟨g, cap', rfl⟩ : ∃ g cap', v' = .slice (some ⟨g, 0, none⟩) (bs.length + 1) cap' := by
    rcases hown'.2 with ⟨_, h0⟩ | ⟨g, cap', cur, fz, hv, _⟩
    · omega
    · exact ⟨g, cap', hv⟩
  go_wp2
  go_ret
  have hb3 : (w2.setCell ⟨b, 1, none⟩ (.slice (some ⟨g, 0, none⟩) (bs.length + 1) cap')).heap[b]? = some (.cells #[.pointer (some ⟨b, 0, none⟩), .slice (some ⟨g, 0, none⟩) (bs.length + 1) cap'] 195 (0, 0)) := by
    simp only [World.setCell, Array.getElem?_modify, hb2]
    simp
  refine ⟨rfl, _, ⟨⟨_, .inr rfl, hb3⟩, by simp, ?_⟩, ((hf1.alloc _).grown hgrow (fun k e => .inr e)).setCell (.inl rfl) _⟩
  rcases hown'.2 with ⟨hz, _⟩ | ⟨g2, cap2, cur, fz, hv, hg, hh', r2⟩
  · simp at hz
  · refine .inr ⟨g2, cap2, cur, fz, by simpa using hv, hg, (Below.heap_setCell _ _ _ _ (fun (e : g2 = b) => ?_)).trans hh', by simpa using r2⟩
    subst e
    rw [hb2] at hh'
    injection hh' with hb
    injection hb with _ hb
    exact absurd hb (by decide)
/-- A writing keeps what lies below. -/
theorem BV.lies {b base : Nat} {v : Value} {bs : List Value} {w w' : World} (h : BV b base v bs w) (f : Fr (BS b v) w w') (hb : base ≤ b) (hB : base ≤ w.heap.size) : Below base w w' := by
  refine f.below hB ?_
  rintro k (rfl | hk)
  · exact hb
  · rcases h.2.2 with ⟨rfl, _⟩ | ⟨g, cap, cur, fz, rfl, hg, _⟩
    · simp [Value.ownBlock] at hk
    · have : g = k := by simpa [Value.ownBlock] using hk
      omega
/-- What a builder holds, whatever leads to it, and that what lies below stands. -/
def Wr (b base : Nat) (l : List UInt8) (w0 w : World) : Prop := (∃ v, BV b base v (Lib.byteCells l) w) ∧ Below base w0 w
theorem wr_byte {b base : Nat} {l : List UInt8} {w0 w : World} (c : UInt8) (ci : Int) (hc : ci = c.toNat) (h : Wr b base l w0 w) (hl : l.length + 1 ≤ 140737488355328) (hb : base ≤ b) (h0 : base ≤ w0.heap.size) :
    Calls Tryd.prog 157 #[.pointer (some ⟨b, 0, none⟩), .int .u8 ci] w fun e w' => e = .returned .nilIface ∧ Wr b base (l ++ [c]) w0 w' := by
  obtain ⟨⟨v, hv⟩, hbl⟩ := h
  have hB := Nat.le_trans h0 hbl.size
  refine (writeByte_calls b base v _ ci w hv (by rw [Lib.byteCells_length]; omega) hB).mono ?_
  rintro e w' ⟨rfl, v', hv', f⟩
  refine ⟨rfl, ⟨v', ?_⟩, hbl.trans (hv.lies f hb hB)⟩
  rw [Lib.byteCells_append]
  rw [hc] at hv'
  exact hv'
theorem wr_text {b base : Nat} {l : List UInt8} {w0 w : World} (s : ByteArray) (hs : 0 < s.size) (h : Wr b base l w0 w) (hl : l.length + s.size ≤ 140737488355328) (hb : base ≤ b) (h0 : base ≤ w0.heap.size) :
    Calls Tryd.prog 156 #[.pointer (some ⟨b, 0, none⟩), .string s] w fun e w' => e = .returned (.tuple #[.int .i64 s.size, .nilIface]) ∧ Wr b base (l ++ s.data.toList) w0 w' := by
  obtain ⟨⟨v, hv⟩, hbl⟩ := h
  have hB := Nat.le_trans h0 hbl.size
  refine (writeString_calls b base v _ s hs w hv (by rw [Lib.byteCells_length]; omega) hB).mono ?_
  rintro e w' ⟨rfl, v', hv', f⟩
  refine ⟨rfl, ⟨v', ?_⟩, hbl.trans (hv.lies f hb hB)⟩
  rw [Lib.byteCells_append, ← Lib.strCells_eq]
  exact hv'
theorem wr_done {b base : Nat} {l : List UInt8} {w0 w : World} (hne : l ≠ []) (h : Wr b base l w0 w) (hb : base ≤ b) (h0 : base ≤ w0.heap.size) :
    Calls Tryd.prog 158 #[.pointer (some ⟨b, 0, none⟩)] w fun e w' => e = .returned (.string ⟨l.toArray⟩) ∧ Below base w0 w' := by
  obtain ⟨⟨v, hv⟩, hbl⟩ := h
  refine (string_calls b base v l w hv hne).mono ?_
  rintro e w' ⟨rfl, f⟩
  exact ⟨rfl, hbl.trans (hv.lies f hb (Nat.le_trans h0 hbl.size))⟩
theorem wr_grown (n : Nat) (w : World) (hn : n ≤ 281474976710656) :
    Calls Tryd.prog 155 #[.pointer (some ⟨w.heap.size, 0, none⟩), .int .i64 n] (w.alloc (.cells #[.pointer none, .slice none 0 0] 195)) fun e w' => e = .returned (.tuple #[]) ∧ Wr w.heap.size w.heap.size [] w w' := by
  refine (Grow_fresh w.heap.size n _ (heap_alloc_new w _) w.heap.size (Nat.le_refl _) hn).mono ?_
  rintro e w' ⟨rfl, hv, hb⟩
  exact ⟨rfl, hv, ((Below.refl w.heap.size w).alloc (Nat.le_refl _) _).trans hb⟩
end Go.Proofs.YtchbfjjeodnocaaDoor.Giv
