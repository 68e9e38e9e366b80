/- Contracts by hand: rows of whole numbers of any size: what they are in memory, an element or 0, two rows compared. -/
import Derived.Test.YtffcbcihnoaikaaDoorZC
import Derived.Test.YtffcbcihnoaikaaDoorWMore
import Derived.BigQuiet
import Derived.Deep.QuietTactic
import Derived.Outline
namespace Go.Proofs.YtffcbcihnoaikaaDoor.Giv
open Go.RowKit Go.Proofs.YtffcbcihnoaikaaDoorW.PrintWords Go.Proofs.YtffcbcihnoaikaaDoorW.PrintLast Go.Proofs.YtffcbcihnoaikaaDoor.Pk Go.Proofs.YtffcbcihnoaikaaDoor.Ord Go.Proofs.YtffcbcihnoaikaaDoor.QM
set_option linter.unusedVariables false
set_option linter.unusedSimpArgs false

theorem cell_block {w w1 : World} (p : Addr) (h : w1.heap[p.block]? = w.heap[p.block]?) : w1.cell? p = w.cell? p := by
  unfold World.cell?
  rw [h]
theorem add_block (a : Addr) (k : Nat) : (a.add k).block = a.block := by
  unfold Addr.add
  split <;> rfl
theorem C_moved {α : Type} {enc : α → Value} {h1 : ∀ x, (enc x).oneCell' = true} {w w1 : World} {A : Option Addr} {n : Nat} {xs : List α} (h : (Kd.scalar enc h1).C w A n xs) (hm : ∀ a, A = some a → w1.heap[a.block]? = w.heap[a.block]?) : (Kd.scalar enc h1).C w1 A n xs := by
  refine ⟨h.1, h.2.1, fun h0 => ?_⟩
  obtain ⟨ad, he, hc⟩ := h.2.2 h0
  refine ⟨ad, he, fun j p hj => ?_⟩
  obtain ⟨c, c1, c2, c3⟩ := hc j p hj
  refine ⟨c, c1, c2, fun i u hu => ?_⟩
  rw [cell_block (w := w) (w1 := w1) _ (by rw [add_block]; exact hm ad he)]
  exact c3 i u hu
theorem IsBig.kept {w w1 : World} {b : Nat} {z : Int} (h : IsBig w b z) (hm : ∀ (k : Nat) (cells : Array Value) (q : TypeId), w.heap[k]? = some (Obj.cells cells q (0, 0)) → (q = 80 ∨ q = 77) → w1.heap[k]? = w.heap[k]?) : IsBig w1 b z := by
  obtain ⟨A, c, h1, h3, h4, h5, h6⟩ := h
  have hA : ∀ a, A = some a → w1.heap[a.block]? = w.heap[a.block]? := fun a e => by
    obtain ⟨arr, ha⟩ := h6 a e
    exact hm _ _ _ ha (.inr rfl)
  refine ⟨A, c, (hm _ _ _ h1 (.inl rfl)).trans h1, h3, h4, C_moved h5 hA, fun a e => ?_⟩
  obtain ⟨arr, ha⟩ := h6 a e
  exact ⟨arr, (hA a e).trans ha⟩
/-- Over a step that turns one row alone, of another type. -/
theorem IsBig.grown {w w1 : World} {b : Nat} {z : Int} (h : IsBig w b z) {row : Option Nat} (hg : w.grownBy w1 row) (ht : ∀ (k : Nat) (cells : Array Value) (q : TypeId), row = some k → w.heap[k]? = some (Obj.cells cells q (0, 0)) → q ≠ 80 ∧ q ≠ 77) : IsBig w1 b z := by
  refine h.kept (fun k cells q hk hq => hg.block k (Array.getElem?_eq_some_iff.1 hk).1 (fun e => ?_))
  have := ht k cells q e.symm hk
  rcases hq with hq | hq
  · exact this.1 hq
  · exact this.2 hq
/-- A pointer to a number's block. -/
abbrev ptrK : Kd Nat := Kd.scalar (fun b => .pointer (some ⟨b, 0, none⟩)) (fun _ => rfl)
/-- The numbers at some blocks. -/
def Bigs (w : World) (ps : List Nat) (zs : List Int) : Prop := ps.length = zs.length ∧ ∀ (j p : Nat) (z : Int), ps[j]? = some p → zs[j]? = some z → IsBig w p z
theorem Bigs.below {w w1 : World} {ps : List Nat} {zs : List Int} (h : Bigs w ps zs) (hb : Below w.heap.size w w1) : Bigs w1 ps zs := ⟨h.1, fun j p z h1 h2 => (h.2 j p z h1 h2).below hb⟩
theorem Bigs.nil (w : World) : Bigs w [] [] := ⟨rfl, fun j p z h => by simp at h⟩
theorem Bigs.snoc {w : World} {ps : List Nat} {zs : List Int} {p : Nat} {z : Int} (h : Bigs w ps zs) (hp : IsBig w p z) : Bigs w (ps ++ [p]) (zs ++ [z]) := by
  refine ⟨by simp [h.1], fun j q y h1 h2 => ?_⟩
  rcases Nat.lt_or_ge j ps.length with hj | hj
  · rw [List.getElem?_append_left hj] at h1
    rw [List.getElem?_append_left (by rw [← h.1]; exact hj)] at h2
    exact h.2 j q y h1 h2
  · rw [List.getElem?_append_right hj] at h1
    rw [List.getElem?_append_right (by rw [← h.1]; exact hj), ← h.1] at h2
    obtain ⟨e, _⟩ := List.getElem?_eq_some_iff.1 h1
    have e0 : j - ps.length = 0 := by simp at e; omega
    rw [e0] at h1 h2
    simp at h1 h2
    rw [← h1, ← h2]
    exact hp
/-- A row of numbers that is read. -/
def BRow (w : World) (A : Option Addr) (zs : List Int) : Prop := ∃ ps, ptrK.C w A zs.length ps ∧ Bigs w ps zs
theorem BRow.below {w w1 : World} {A : Option Addr} {zs : List Int} (h : BRow w A zs) (hb : Below w.heap.size w w1) : BRow w1 A zs := by
  obtain ⟨ps, h1, h2⟩ := h
  exact ⟨ps, Kd.C_below h1 hb, h2.below hb⟩
theorem BRow.nil (w : World) : BRow w none [] := ⟨[], Kd.C_nil _ _, Bigs.nil w⟩
theorem BRow.at_ {w : World} {A : Option Addr} {zs : List Int} (h : BRow w A zs) (i : Nat) (hi : i < zs.length) : ∃ ad p, A = some ad ∧ w.cell? (ad.add i) = some (.pointer (some ⟨p, 0, none⟩)) ∧ IsBig w p (zs[i]'hi) := by
  obtain ⟨ps, h1, h2⟩ := h
  have hlp : i < ps.length := by rw [h2.1]; exact hi
  obtain ⟨ad, e, c⟩ := h1.2.2 (by omega)
  obtain ⟨cs, c1, c2, c3⟩ := c i _ (List.getElem?_eq_getElem hlp)
  refine ⟨ad, ps[i]'hlp, e, ?_, h2.2 i _ _ (List.getElem?_eq_getElem hlp) (List.getElem?_eq_getElem hi)⟩
  have c2' : cs = [.pointer (some ⟨ps[i]'hlp, 0, none⟩)] := c2
  have := c3 0 (.pointer (some ⟨ps[i]'hlp, 0, none⟩)) (by rw [c2']; rfl)
  have e1 : i * (ptrK).sz + 0 = i := by
    show i * 1 + 0 = i
    omega
  rwa [e1] at this
/-- A row of numbers of the call's own. -/
def BOwn (w : World) (base : Nat) (v : Value) (zs : List Int) : Prop := ∃ ps, ptrK.R 38 w base (fun _ => True) v ps ∧ Bigs w ps zs
theorem BOwn.nil (w : World) (base : Nat) : BOwn w base (.slice none 0 0) [] := ⟨[], Kd.R_nil _ _ _ _ _, Bigs.nil w⟩
theorem BOwn.below {w w1 : World} {base : Nat} {v : Value} {zs : List Int} (h : BOwn w base v zs) (hb : Below w.heap.size w w1) : BOwn w1 base v zs := by
  obtain ⟨ps, h1, h2⟩ := h
  exact ⟨ps, Kd.R_below h1 hb, h2.below hb⟩
theorem BOwn.slice {w : World} {base : Nat} {v : Value} {zs : List Int} (h : BOwn w base v zs) : ∃ A c, v = .slice A zs.length c ∧ zs.length ≤ c ∧ BRow w A zs := by
  obtain ⟨ps, h1, h2⟩ := h
  obtain ⟨A, c, e, hc, hr⟩ := Kd.R_reads h1
  rw [h2.1] at e hc hr
  exact ⟨A, c, e, hc, ps, hr, h2⟩
theorem BOwn.lower {w : World} {base base' : Nat} {v : Value} {zs : List Int} (h : BOwn w base v zs) (hb : base' ≤ base) : BOwn w base' v zs := by
  obtain ⟨ps, h1, h2⟩ := h
  exact ⟨ps, Kd.R_lower h1 hb, h2⟩
/-- What an append of a number leaves. -/
theorem BOwn.more {w w1 : World} {base : Nat} {v v1 : Value} {ps : List Nat} {zs : List Int} {p : Nat} {z : Int} (h1 : ptrK.R 38 w base (fun _ => True) v ps) (h2 : Bigs w ps zs) (hp : IsBig w p z) (hr : ptrK.R 38 w1 base (fun _ => True) v1 (ps ++ [p])) (hg : w.grownBy w1 v.ownBlock) : BOwn w1 base v1 (zs ++ [z]) := by
  obtain ⟨inner, ho⟩ := Kd.R_own h1
  have ht : ∀ (k : Nat) (cells : Array Value) (q : TypeId), v.ownBlock = some k → w.heap[k]? = some (Obj.cells cells q (0, 0)) → q ≠ 80 ∧ q ≠ 77 := by
    intro k cells q hk hc
    obtain ⟨cells', hc'⟩ := own_typed ho k hk
    rw [hc] at hc'
    injection hc' with hc'
    injection hc' with _ hc'
    rw [hc']
    decide
  exact ⟨_, hr, Bigs.snoc ⟨h2.1, fun j q y e1 e2 => (h2.2 j q y e1 e2).grown hg ht⟩ (hp.grown hg ht)⟩
/-- Over a store into a block of another type. -/
theorem IsBig.put {w : World} {b : Nat} {z : Int} (h : IsBig w b z) {g t : Nat} {cells : Array Value} (hb : w.heap[g]? = some (Obj.cells cells t (0, 0))) (ht : t ≠ 80 ∧ t ≠ 77) (j : Nat) (u : Value) : IsBig (w.setCell ⟨g, j, none⟩ u) b z := by
  refine h.kept (fun k cells' q hk hq => Below.heap_setCell w ⟨g, j, none⟩ u k (fun e => ?_))
  have e' : k = g := e
  rw [e', hb] at hk
  injection hk with hk
  injection hk with _ hk
  rcases hq with hq | hq
  · exact ht.1 (hk.trans hq)
  · exact ht.2 (hk.trans hq)
theorem BOwn.put {w : World} {base : Nat} {v : Value} {zs : List Int} (h : BOwn w base v zs) {g t : Nat} {cells : Array Value} (hb : w.heap[g]? = some (Obj.cells cells t (0, 0))) (ht : t ≠ 80 ∧ t ≠ 77) (hp : t ≠ 38) (j : Nat) (u : Value) : BOwn (w.setCell ⟨g, j, none⟩ u) base v zs := by
  obtain ⟨ps, h1, h2⟩ := h
  refine ⟨ps, Kd.R_set h1 hb (fun q hq => ?_) j u, h2.1, fun i p z e1 e2 => (h2.2 i p z e1 e2).put hb ht j u⟩
  rcases List.mem_cons.1 hq with e | e
  · rw [e]; exact fun e2 => hp e2.symm
  · exact absurd e List.not_mem_nil
theorem wd_zero : ws (wd 0) = [] := by
  unfold wd
  rw [show (0 : Int).natAbs = 0 from rfl, Dg.dg_zero]
  rfl
theorem isBig_zero (w : World) : IsBig (w.alloc (.cells #[.bool false, .slice none 0 0] 80)) w.heap.size 0 := by
  unfold IsBig
  rw [wd_zero]
  exact ⟨none, 0, blk_new _ _, Nat.le_refl _, Nat.zero_le _, Kd.C_nil _ _, fun a e => by cases e⟩
end Go.Proofs.YtffcbcihnoaikaaDoor.Giv
