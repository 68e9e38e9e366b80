/- A row of texts put behind another one that is full: new memory. -/
import Derived.Test.YtehlakaccgccbaaDoorWMore
import Derived.Test.YtehlakaccgccbaaDoorPk
import Derived.Test.YtehlakaccgccbaaDoorIns
import Derived.ArgAppend
namespace Go.Proofs.YtehlakaccgccbaaDoor.Giv
open Go.RowKit Go.Proofs.YtehlakaccgccbaaDoorW.PrintWords Go.Proofs.YtehlakaccgccbaaDoorW.PrintLast Go.Proofs.YtehlakaccgccbaaDoor.Pk
set_option linter.unusedVariables false
set_option linter.unusedSimpArgs false

theorem sort_snoc {α : Type} (c : α → α → Int) : ∀ (acc l : List α) (s : α), Ins.sort c acc (l ++ [s]) = Ins.ins c s (Ins.sort c acc l)
  | acc, [], s => rfl
  | acc, x :: r, s => by
    rw [List.cons_append, Ins.sort, Ins.sort, sort_snoc c _ r s]
theorem row_cells {w : World} {b : Addr} {n : Nat} {xs : List ByteArray} (h : Kd.C Kd.string w (some b) n xs) : ∀ (j : Nat) (u : Value), (encs Value.string xs)[j]? = some u → w.cell? (b.add j) = some u := by
  intro j u hj
  unfold encs at hj
  rw [List.getElem?_map] at hj
  cases hx : xs[j]? with
  | none => rw [hx] at hj; exact absurd hj (by simp)
  | some p =>
    rw [hx] at hj
    have hn : 0 < n := by
      obtain ⟨hlt, _⟩ := List.getElem?_eq_some_iff.1 hx
      have := h.1
      omega
    obtain ⟨ad, e, hc⟩ := h.2.2 hn
    obtain ⟨c, c1, c2, c3⟩ := hc j p hx
    have e := Option.some.inj e
    rw [e]
    have c2 : c = [.string p] := c2
    have := c3 0 u (by rw [c2]; simpa using hj)
    have z : j * (Kd.string).sz + 0 = j := by show j * 1 + 0 = j; omega
    rw [z] at this
    exact this
section
variable {P : Program} {ops : Array Oper} {o : Oper} {a : Act} {Q : Exit → Act → World → Prop} {Kc : Act → World → Prop}
theorem appendFull_step {W : World} (hw : Region.wanted o (yielded ops a.tmps) = true) (s x : Operand) (t e : TypeId)
    (ho : o.op = .call { callee := .builtin .append, args := #[s, x], argTypes := #[t, t] })
    (ht : P.underlying t = some (.slice e)) (hinfo : (P.info? e).map (fun i => (i.zero, i.size, i.bytes)) = some (some (.string ⟨#[]⟩), 1, 16))
    (A : Option Addr) (k : Nat) (xs ys : List ByteArray) (B : Option Addr) (m c : Nat) (hs : a.eval s = .slice A k k) (hx : a.eval x = .slice B m c)
    (HC : Kd.C Kd.string W A k xs) (hA : A = none → k = 0) (HX : Kd.C Kd.string W B m ys) (hm : 0 < m) (hl : (k + m) * 16 ≤ 140737488355328)
    (h : ∀ v1 w1, Kd.R Kd.string e w1 W.heap.size (fun _ => True) v1 (xs ++ ys) → Below W.heap.size W w1 → Kc (a.put o.dst v1) w1) :
    if Region.wanted o (yielded ops a.tmps) = true then Oper.wp P o a W Kc Q else Kc (a.put o.dst undef) W := by
  obtain ⟨i0, hi, hzz⟩ := Option.map_eq_some_iff.1 hinfo
  simp only [Prod.mk.injEq] at hzz
  obtain ⟨hz0, hz1, hz2⟩ := hzz
  have lx : xs.length = k := HC.1
  have ly : ys.length = m := HX.1
  obtain ⟨bd, rfl, _⟩ := HX.2.2 hm
  have hrun : ∃ v1 w1, (Builtin.append_ #[t, t] o.type #[.slice A k k, .slice (some bd) m c]).run P W = .ok v1 w1 ∧ w1.ownsRow W.heap.size e 1 v1 (k + m) (encs Value.string xs ++ encs Value.string ys) ∧ W.grownBy w1 none := by
    cases A with
    | some b => exact run_append_arg_grows (P := P) W t o.type e i0 (.string ⟨#[]⟩) 1 16 ht hi hz0 hz1 hz2 rfl (by omega) b k k (encs Value.string xs) (by rw [encs_length]; omega) (row_cells HC) bd m c (encs Value.string ys) (by rw [encs_length]; omega) (row_cells HX) (by omega) (by unfold maxLen; omega) hl
    | none =>
      obtain rfl := hA rfl
      obtain rfl : xs = [] := List.eq_nil_of_length_eq_zero lx
      obtain ⟨v', w', r1, r2, r3, _⟩ := run_append_own (P := P) W W.heap.size t o.type e i0 (.string ⟨#[]⟩) 1 16 ht hi hz0 hz1 hz2 rfl (by omega) (.slice none 0 0) 0 [] (World.ownsRow_nil W _ e 1) bd m c (encs Value.string ys) (by rw [encs_length]; omega) (row_cells HX) (fun u hu => by
        unfold encs at hu
        obtain ⟨q, _, rfl⟩ := List.mem_map.1 hu
        rfl) (by unfold maxLen; omega) hl (Nat.le_refl _)
      exact ⟨v', w', r1, by simpa [encs] using r2, r3⟩
  obtain ⟨v1, w1, hr1, h1, hg⟩ := hrun
  rw [if_pos hw]
  unfold Oper.wp execOp
  simp only [ho, resolve, invoke, builtin, Sem.run_bind, Sem.run_pure, Result.andThen_ok, List.map_toArray, List.map_cons, List.map_nil, hs, hx, hr1]
  refine h v1 w1 (Kd.R_of_own ?_ (fun _ _ => trivial)) ⟨hg.os, hg.tape, hg.output, hg.size, fun k hk => hg.block k hk (by simp)⟩
  rw [encs_append, List.length_append, lx, ly]
  exact h1
end
end Go.Proofs.YtehlakaccgccbaaDoor.Giv
