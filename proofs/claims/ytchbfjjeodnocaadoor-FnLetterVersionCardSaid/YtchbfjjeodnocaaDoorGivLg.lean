/- Contract by hand: (*strings.Builder).grow of a builder without a buffer. -/
import Derived.Test.YtchbfjjeodnocaaDoorZK
import Derived.Lib.MakeNoZero
import Derived.Lib.Case
import Derived.Laws.IdiomCopy
import Derived.Lib.FrozenHead2
namespace Go.Proofs.YtchbfjjeodnocaaDoor.Giv
open Go.RowKit
set_option linter.unusedSimpArgs false
set_option linter.unusedVariables false

theorem byteOne : (Tryd.prog.info? 5).map (·.size) = some 1 := by kernel_rfl
theorem blkLt {w : World} {b : Nat} {o : Obj} (h : w.heap[b]? = some o) : b < w.heap.size := by
  rcases Nat.lt_or_ge b w.heap.size with h' | h'
  · exact h'
  · simp [Array.getElem?_eq_none h'] at h
/-- A buffer made for it that holds nothing yet. -/
theorem BV.made {b base : Nat} {cs : Array Value} {w : World} (hbk : w.heap[b]? = some (.cells #[.pointer (some ⟨b, 0, none⟩), .slice none 0 0] 195 (0, 0))) (hB : base ≤ w.heap.size) (hm : cs.size ≤ maxLen) :
    BV b base (.slice (some ⟨w.heap.size, 0, none⟩) 0 cs.size) [] ((w.setCell ⟨b, 1, none⟩ (.slice (some ⟨w.heap.size, 0, none⟩) 0 cs.size)).alloc (.cells cs 5)) := by
  have hlt := blkLt hbk
  have hsz : (w.setCell ⟨b, 1, none⟩ (.slice (some ⟨w.heap.size, 0, none⟩) 0 cs.size)).heap.size = w.heap.size := by simp [World.setCell]
  have h1 : (w.setCell ⟨b, 1, none⟩ (.slice (some ⟨w.heap.size, 0, none⟩) 0 cs.size)).heap[b]? = some (.cells #[.pointer (some ⟨b, 0, none⟩), .slice (some ⟨w.heap.size, 0, none⟩) 0 cs.size] 195 (0, 0)) := by
    simp only [World.setCell, Array.getElem?_modify, hbk]
    simp
  have h2 := (Lib.alloc_old _ (.cells cs 5) b (by rw [hsz]; exact hlt)).trans h1
  have h3 := heap_alloc_new (w.setCell ⟨b, 1, none⟩ (.slice (some ⟨w.heap.size, 0, none⟩) 0 cs.size)) (.cells cs 5)
  rw [hsz] at h3
  exact ⟨⟨_, .inr rfl, h2⟩, by simp, .inr ⟨w.heap.size, cs.size, cs, (0, 0), rfl, hB, h3, Nat.zero_le _, Nat.zero_le _, hm, by simp, by simp⟩⟩
set_option maxHeartbeats 2000000 in
set_option maxRecDepth 100000 in
theorem grow_fresh (b n : Nat) (w : World) (hbk : w.heap[b]? = some (.cells #[.pointer (some ⟨b, 0, none⟩), .slice none 0 0] 195 (0, 0))) (base : Nat) (hb : base ≤ b) (hn : n ≤ 281474976710656) :
    Calls Tryd.prog 180 #[.pointer (some ⟨b, 0, none⟩), .int .i64 n] w fun e w' => e = .returned (.tuple #[]) ∧ (∃ v, BV b base v [] w') ∧ Below base w w' := by
  obtain ⟨cs, hrun, hle, hmax⟩ := Lib.run_makeNoZero (P := Tryd.prog) w.drew #[3] 145 5 Tryd.underlying145 n hn
  have hlt := blkLt hbk
  have hw : IntKind.i64.wrap (IntKind.i64.wrap 0 + (n : Int)) = n := by
    rw [IntKind.wrap_i64, IntKind.wrap_i64]
    omega
  have hcall : (callFunc 201 #[.int .i64 (IntKind.i64.wrap (IntKind.i64.wrap 0 + (n : Int)))]).run Tryd.prog w.drew = .ok (.value (.slice (some ⟨w.drew.heap.size, 0, none⟩) n cs.size)) (w.drew.drew.drew.alloc (.cells cs 5)) := by
    rw [hw, run_callFunc_extern Tryd.func201 (by kernel_rfl) (by kernel_rfl) (by kernel_rfl) (e := Extern.BytealgMakeNoZero.makeNoZero #[3] #[145]) (by kernel_rfl), hrun]
    rfl
  have c1 : w.drew.cell? ⟨b, 1, none⟩ = some (.slice none 0 0) := by
    have : w.drew.heap[b]? = _ := hbk
    rw [Lib.cell_of_heap this]
    rfl
  have h1 : (w.alloc (.cells cs 5)).heap[b]? = _ := (Lib.alloc_old w _ b hlt).trans hbk
  have c2 : (w.alloc (.cells cs 5)).cell? ⟨b, 1, none⟩ = some (.slice none 0 0) := by
    rw [Lib.cell_of_heap h1]
    rfl
  have f2 : (w.alloc (.cells cs 5)).frozen? ⟨b, 1, none⟩ = false := Lib.frozen_of_heap h1 1
  have hcopy : ∀ W : World, (Builtin.copy_ #[145, 145] 3 #[.slice (some ⟨w.heap.size, 0, none⟩) 0 cs.size, .slice none 0 0]).run Tryd.prog W = .ok (goInt 0) W :=
    fun W => run_copy_none W 145 145 3 5 _ _ 0 cs.size 0 0 Tryd.underlying145 byteOne rfl
  clear hw
  go_enter Tryd.func180, Tryd.ntmps180
  go_wp2
  have hfin := BV.made (b := b) (base := base) (cs := cs) hbk (by omega) (hmax (by unfold maxLen; omega))
  have hbl : Below base w ((w.setCell ⟨b, 1, none⟩ (.slice (some ⟨w.heap.size, 0, none⟩) 0 cs.size)).alloc (.cells cs 5)) := ((Below.refl base w).setCell (p := ⟨b, 1, none⟩) hb _).alloc (by simp [World.setCell]; omega) _
  go_region
  all_goals (go_wp2; go_end0; exact ⟨rfl, ⟨_, hfin⟩, hbl.drew.drew.drew⟩)
end Go.Proofs.YtchbfjjeodnocaaDoor.Giv
