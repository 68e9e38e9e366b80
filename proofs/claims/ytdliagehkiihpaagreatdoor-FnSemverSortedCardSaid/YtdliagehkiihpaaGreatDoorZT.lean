/- Valid texts: what stands behind the numbers of a version is what the text has there; the numbers are the runs of digits. Plain Lean, no program.
   Putting in order by insertion, in plain Lean: what comes out is in order. No program.
   A row of texts put behind another one that is full: new memory.
   The law FnSemverSorted walked: a list put in order by insertion, then held against the reference, over contracts of what it calls.
   utf8.ValidString as a function that is told; the tables of utf8 beside the errors.
   Contracts by hand: the place of a byte; the identifiers behind a version's numbers. -/
import Derived.Test.YtdliagehkiihpaaGreatDoorZY
import Derived.Lib.MapLaws
import Derived.Lib.ValidLaws
import Derived.Lib.TrimUEq
import Derived.Test.YtdliagehkiihpaaGreatDoorZA
import Derived.Test.YtdliagehkiihpaaGreatDoorWMore
import Derived.Test.YtdliagehkiihpaaGreatDoorZD
import Derived.ArgAppend
import Derived.Deep.RegionHeld3
import Derived.Outline
import Derived.Test.YtdliagehkiihpaaGreatDoorZC
import Derived.Test.YtdliagehkiihpaaGreatDoorShelf
import Derived.Test.YtdliagehkiihpaaGreatDoorZW
namespace Go.Proofs.YtdliagehkiihpaaGreatDoor.Slk
open Go.Proofs.YtdliagehkiihpaaGreatDoor.Rpm Go.Proofs.YtdliagehkiihpaaGreatDoor.Ord Go.Proofs.YtdliagehkiihpaaGreatDoor.Giv Go.Proofs.YtdliagehkiihpaaGreatDoor.Pk
set_option linter.unusedVariables false
set_option linter.unusedSimpArgs false
/-- Digits and points ahead. -/
def dp (c : UInt8) : Bool := dig c || c == 46
def nonE (l : List (List UInt8)) : List Int := (l.filter (fun q => !q.isEmpty)).map (fun q => (Num.dec q : Int))
theorem nonE_one (cur : List UInt8) : nonE [cur] = if cur = [] then [] else [(Num.dec cur : Int)] := by
  cases cur <;> rfl
theorem nonE_cons (cur : List UInt8) (l : List (List UInt8)) : nonE (cur :: l) = (if cur = [] then [] else [(Num.dec cur : Int)]) ++ nonE l := by
  cases cur <;> rfl
theorem fl_eq (acc : List Int) (cur : List UInt8) : fl acc cur = acc ++ (if cur = [] then [] else [(Num.dec cur : Int)]) := by
  unfold fl
  split <;> simp
theorem dig_no46 {l : List UInt8} (h : l.all dig = true) : (l.any (fun x => x == 46)) = false := by
  rw [List.any_eq_false]
  intro c hc
  have hd := List.all_eq_true.1 h c hc
  intro e
  have e : c = 46 := by simpa using e
  rw [e] at hd
  exact absurd hd (by decide)
theorem cut_seg (c : UInt8) (r : List UInt8) : ∀ seg : List UInt8, (seg.any (fun x => x == c)) = false → Cut.cutAt c (seg ++ c :: r) = seg :: Cut.cutAt c r
  | [], _ => by
    rw [List.nil_append]
    conv => lhs; unfold Cut.cutAt
    rw [if_pos rfl]
  | x :: s, h => by
    rw [List.any_cons, Bool.or_eq_false_iff] at h
    have hx : ¬ x = c := by simpa using h.1
    rw [List.cons_append]
    conv => lhs; unfold Cut.cutAt
    rw [if_neg hx, cut_seg c r s h.2]
/-- The numbers are the runs of digits between the points. -/
theorem slk_runs : ∀ (l : List UInt8) (acc : List Int) (cur : List UInt8), cur.all dig = true → slk acc cur l = (acc ++ nonE (Cut.cutAt 46 (cur ++ l.takeWhile dp)), l.dropWhile dp)
  | [], acc, cur, h => by
    rw [slk_nil, List.takeWhile_nil, List.append_nil, (Cut.cutAt_no 46 cur (dig_no46 h)).1, nonE_one, fl_eq]
    rfl
  | c :: r, acc, cur, h => by
    rw [slk_cons]
    by_cases hd : dig c = true
    · have hp : dp c = true := by unfold dp; rw [hd]; rfl
      rw [if_pos hd, List.takeWhile_cons_of_pos hp, List.dropWhile_cons_of_pos hp, slk_runs r acc (cur ++ [c]) (by rw [List.all_append, h]; simp [hd]), List.append_assoc]
      rfl
    · rw [if_neg hd]
      by_cases h46 : c = 46
      · have hp : dp c = true := by unfold dp; rw [h46]; rfl
        rw [if_pos h46, List.takeWhile_cons_of_pos hp, List.dropWhile_cons_of_pos hp, slk_runs r (fl acc cur) [] rfl, h46, cut_seg 46 _ cur (dig_no46 h), nonE_cons, fl_eq, List.nil_append, List.append_assoc]
      · have hp : ¬ dp c = true := by
          unfold dp
          simp [hd, h46]
        rw [if_neg h46, List.takeWhile_cons_of_neg hp, List.dropWhile_cons_of_neg hp, List.append_nil, (Cut.cutAt_no 46 cur (dig_no46 h)).1, nonE_one, fl_eq]
end Go.Proofs.YtdliagehkiihpaaGreatDoor.Slk

namespace Go.Proofs.YtdliagehkiihpaaGreatDoor.Ins
open Go.Proofs.YtdliagehkiihpaaGreatDoor.Ord
set_option linter.unusedVariables false

variable {α : Type}
/-- How many at the head are not greater. -/
def place (c : α → α → Int) (s : α) : List α → Nat
  | [] => 0
  | x :: r => if c x s > 0 then 0 else place c s r + 1
def ins (c : α → α → Int) (s : α) (l : List α) : List α := l.take (place c s l) ++ s :: l.drop (place c s l)
def sort (c : α → α → Int) : List α → List α → List α
  | acc, [] => acc
  | acc, s :: r => sort c (ins c s acc) r
theorem place_le (c : α → α → Int) (s : α) : ∀ l : List α, place c s l ≤ l.length
  | [] => Nat.le_refl _
  | x :: r => by
    unfold place
    split
    · exact Nat.zero_le _
    · have := place_le c s r
      simpa using this
/-- Where the search stands: none of those before is greater; the one there is, or there is none. -/
theorem place_of (c : α → α → Int) (s : α) : ∀ (l : List α) (k : Nat), k ≤ l.length → (∀ (i : Nat) (x : α), i < k → l[i]? = some x → ¬ c x s > 0) → (∀ x : α, l[k]? = some x → c x s > 0) → place c s l = k
  | [], k, hk, _, _ => by
    have : k = 0 := by simpa using hk
    rw [this]
    rfl
  | x :: r, 0, _, _, h => by
    unfold place
    rw [if_pos (h x rfl)]
  | x :: r, k + 1, hk, hb, h => by
    unfold place
    rw [if_neg (hb 0 x (Nat.succ_pos _) rfl), place_of c s r k (by simpa using hk) (fun i y hi hy => hb (i + 1) y (Nat.succ_lt_succ hi) hy) (fun y hy => h y hy)]
theorem ins_mem {c : α → α → Int} {s y : α} {l : List α} : y ∈ ins c s l ↔ y = s ∨ y ∈ l := by
  unfold ins
  have e := List.take_append_drop (place c s l) l
  constructor
  · intro h
    rcases List.mem_append.1 h with h | h
    · exact .inr (List.mem_of_mem_take h)
    · rcases List.mem_cons.1 h with h | h
      · exact .inl h
      · exact .inr (List.mem_of_mem_drop h)
  · rintro (rfl | h)
    · exact List.mem_append.2 (.inr (List.mem_cons_self ..))
    · rw [← e] at h
      rcases List.mem_append.1 h with h | h
      · exact List.mem_append.2 (.inl h)
      · exact List.mem_append.2 (.inr (List.mem_cons_of_mem _ h))
theorem ins_len (c : α → α → Int) (s : α) (l : List α) : (ins c s l).length = l.length + 1 := by
  unfold ins
  have := place_le c s l
  rw [List.length_append, List.length_cons, List.length_take, List.length_drop]
  omega
theorem sort_mem {c : α → α → Int} {y : α} : ∀ (l acc : List α), y ∈ sort c acc l ↔ y ∈ acc ∨ y ∈ l
  | [], acc => by simp [sort]
  | s :: r, acc => by
    rw [sort, sort_mem r, ins_mem, List.mem_cons]
    constructor
    · rintro ((h | h) | h)
      · exact .inr (.inl h)
      · exact .inl h
      · exact .inr (.inr h)
    · rintro (h | h | h)
      · exact .inl (.inr h)
      · exact .inl (.inl h)
      · exact .inr h
theorem sort_len (c : α → α → Int) : ∀ (l acc : List α), (sort c acc l).length = acc.length + l.length
  | [], acc => rfl
  | s :: r, acc => by
    rw [sort, sort_len c r, ins_len, List.length_cons]
    omega
/-- In order. -/
def Sorted (c : α → α → Int) (l : List α) : Prop := l.Pairwise (fun x y => c x y ≤ 0)
theorem place_lt (c : α → α → Int) (s : α) : ∀ (l : List α), ∀ x ∈ l.take (place c s l), c x s ≤ 0
  | [], x, h => by simp [place] at h
  | y :: r, x, h => by
    unfold place at h
    split at h
    · simp at h
    · next hn =>
      rw [List.take_succ_cons] at h
      rcases List.mem_cons.1 h with rfl | h
      · omega
      · exact place_lt c s r x h
theorem place_ge {c : α → α → Int} (hc : Cmp c) (s : α) : ∀ (l : List α), Sorted c l → ∀ x ∈ l.drop (place c s l), c s x ≤ 0
  | [], _, x, h => by simp at h
  | y :: r, hs, x, h => by
    obtain ⟨h1, h2⟩ := List.pairwise_cons.1 hs
    unfold place at h
    split at h
    · next hp =>
      rw [List.drop_zero] at h
      have f := hc.flip y s
      rcases List.mem_cons.1 h with rfl | h
      · omega
      · exact (hc.tr s y x (by omega) (h1 x h)).1
    · rw [List.drop_succ_cons] at h
      exact place_ge hc s r h2 x h
theorem ins_sorted {c : α → α → Int} (hc : Cmp c) (s : α) (l : List α) (h : Sorted c l) : Sorted c (ins c s l) := by
  unfold ins Sorted
  have hl := place_lt c s l
  have hg := place_ge hc s l h
  have e := List.take_append_drop (place c s l) l
  have h' : Sorted c (l.take (place c s l) ++ l.drop (place c s l)) := by rw [e]; exact h
  obtain ⟨p1, p2, p3⟩ := List.pairwise_append.1 h'
  refine List.pairwise_append.2 ⟨p1, List.pairwise_cons.2 ⟨hg, p2⟩, fun x hx y hy => ?_⟩
  rcases List.mem_cons.1 hy with rfl | hy
  · exact hl x hx
  · exact p3 x hx y hy
theorem sort_sorted {c : α → α → Int} (hc : Cmp c) : ∀ (l acc : List α), Sorted c acc → Sorted c (sort c acc l)
  | [], acc, h => h
  | s :: r, acc, h => by
    rw [sort]
    exact sort_sorted hc r _ (ins_sorted hc s acc h)
theorem sorted_at {c : α → α → Int} {l : List α} (h : Sorted c l) (i k : Nat) (hik : i < k) (x y : α) (hx : l[i]? = some x) (hy : l[k]? = some y) : c x y ≤ 0 := by
  obtain ⟨h1, rfl⟩ := List.getElem?_eq_some_iff.1 hx
  obtain ⟨h2, rfl⟩ := List.getElem?_eq_some_iff.1 hy
  exact List.pairwise_iff_getElem.1 h i k h1 h2 hik
end Go.Proofs.YtdliagehkiihpaaGreatDoor.Ins

namespace Go.Proofs.YtdliagehkiihpaaGreatDoor.Giv
open Go.RowKit Go.Proofs.YtdliagehkiihpaaGreatDoorW.PrintWords Go.Proofs.YtdliagehkiihpaaGreatDoorW.PrintLast Go.Proofs.YtdliagehkiihpaaGreatDoor.Pk
set_option linter.unusedVariables false
set_option linter.unusedSimpArgs false

theorem sort_snoc {α : Type} (c : α → α → Int) : ∀ (acc l : List α) (s : α), Ins.sort c acc (l ++ [s]) = Ins.ins c s (Ins.sort c acc l)
  | acc, [], s => rfl
  | acc, x :: r, s => by
    rw [List.cons_append, Ins.sort, Ins.sort, sort_snoc c _ r s]
theorem row_cells {w : World} {b : Addr} {n : Nat} {xs : List ByteArray} (h : Kd.C Kd.string w (some b) n xs) : ∀ (j : Nat) (u : Value), (encs Value.string xs)[j]? = some u → w.cell? (b.add j) = some u := by
  intro j u hj
  unfold encs at hj
  rw [List.getElem?_map] at hj
  cases hx : xs[j]? with
  | none => rw [hx] at hj; exact absurd hj (by simp)
  | some p =>
    rw [hx] at hj
    have hn : 0 < n := by
      obtain ⟨hlt, _⟩ := List.getElem?_eq_some_iff.1 hx
      have := h.1
      omega
    obtain ⟨ad, e, hc⟩ := h.2.2 hn
    obtain ⟨c, c1, c2, c3⟩ := hc j p hx
    have e := Option.some.inj e
    rw [e]
    have c2 : c = [.string p] := c2
    have := c3 0 u (by rw [c2]; simpa using hj)
    have z : j * (Kd.string).sz + 0 = j := by show j * 1 + 0 = j; omega
    rw [z] at this
    exact this
section
variable {P : Program} {ops : Array Oper} {o : Oper} {a : Act} {Q : Exit → Act → World → Prop} {Kc : Act → World → Prop}
theorem appendFull_step {W : World} (hw : Region.wanted o (yielded ops a.tmps) = true) (s x : Operand) (t e : TypeId)
    (ho : o.op = .call { callee := .builtin .append, args := #[s, x], argTypes := #[t, t] })
    (ht : P.underlying t = some (.slice e)) (hinfo : (P.info? e).map (fun i => (i.zero, i.size, i.bytes)) = some (some (.string ⟨#[]⟩), 1, 16))
    (A : Option Addr) (k : Nat) (xs ys : List ByteArray) (B : Option Addr) (m c : Nat) (hs : a.eval s = .slice A k k) (hx : a.eval x = .slice B m c)
    (HC : Kd.C Kd.string W A k xs) (hA : A = none → k = 0) (HX : Kd.C Kd.string W B m ys) (hm : 0 < m) (hl : (k + m) * 16 ≤ 140737488355328)
    (h : ∀ v1 w1, Kd.R Kd.string e w1 W.heap.size (fun _ => True) v1 (xs ++ ys) → Below W.heap.size W w1 → Kc (a.put o.dst v1) w1) :
    if Region.wanted o (yielded ops a.tmps) = true then Oper.wp P o a W Kc Q else Kc (a.put o.dst undef) W := by
  obtain ⟨i0, hi, hzz⟩ := Option.map_eq_some_iff.1 hinfo
  simp only [Prod.mk.injEq] at hzz
  obtain ⟨hz0, hz1, hz2⟩ := hzz
  have lx : xs.length = k := HC.1
  have ly : ys.length = m := HX.1
  obtain ⟨bd, rfl, _⟩ := HX.2.2 hm
  have hrun : ∃ v1 w1, (Builtin.append_ #[t, t] o.type #[.slice A k k, .slice (some bd) m c]).run P W = .ok v1 w1 ∧ w1.ownsRow W.heap.size e 1 v1 (k + m) (encs Value.string xs ++ encs Value.string ys) ∧ W.grownBy w1 none := by
    cases A with
    | some b => exact run_append_arg_grows (P := P) W t o.type e i0 (.string ⟨#[]⟩) 1 16 ht hi hz0 hz1 hz2 rfl (by omega) b k k (encs Value.string xs) (by rw [encs_length]; omega) (row_cells HC) bd m c (encs Value.string ys) (by rw [encs_length]; omega) (row_cells HX) (by omega) (by unfold maxLen; omega) hl
    | none =>
      obtain rfl := hA rfl
      obtain rfl : xs = [] := List.eq_nil_of_length_eq_zero lx
      obtain ⟨v', w', r1, r2, r3, _⟩ := run_append_own (P := P) W W.heap.size t o.type e i0 (.string ⟨#[]⟩) 1 16 ht hi hz0 hz1 hz2 rfl (by omega) (.slice none 0 0) 0 [] (World.ownsRow_nil W _ e 1) bd m c (encs Value.string ys) (by rw [encs_length]; omega) (row_cells HX) (fun u hu => by
        unfold encs at hu
        obtain ⟨q, _, rfl⟩ := List.mem_map.1 hu
        rfl) (by unfold maxLen; omega) hl (Nat.le_refl _)
      exact ⟨v', w', r1, by simpa [encs] using r2, r3⟩
  obtain ⟨v1, w1, hr1, h1, hg⟩ := hrun
  rw [if_pos hw]
  unfold Oper.wp execOp
  simp only [ho, resolve, invoke, builtin, Sem.run_bind, Sem.run_pure, Result.andThen_ok, List.map_toArray, List.map_cons, List.map_nil, hs, hx, hr1]
  refine h v1 w1 (Kd.R_of_own ?_ (fun _ _ => trivial)) ⟨hg.os, hg.tape, hg.output, hg.size, fun k hk => hg.block k hk (by simp)⟩
  rw [encs_append, List.length_append, lx, ly]
  exact h1
end
end Go.Proofs.YtdliagehkiihpaaGreatDoor.Giv

namespace Go.Proofs.YtdliagehkiihpaaGreatDoor.Giv
open Go.RowKit Go.Proofs.YtdliagehkiihpaaGreatDoorW.PrintWords Go.Proofs.YtdliagehkiihpaaGreatDoorW.PrintLast Go.Proofs.YtdliagehkiihpaaGreatDoor.Pk Go.Proofs.YtdliagehkiihpaaGreatDoor.Ord
set_option linter.unusedVariables false
set_option linter.unusedSimpArgs false
theorem ins_infoStr : (Tryz.prog.info? 9).map (fun i => (i.zero, i.size, i.bytes)) = some (some (.string ⟨#[]⟩), 1, 16) := by kernel_rfl
/-- A literal of one text. -/
theorem own_lit1 {t : Nat} (W : World) (s : ByteArray) : Kd.R Kd.string t (W.alloc (Obj.cells #[Value.string s] t)) W.heap.size (fun _ => True) (.slice (some ⟨W.heap.size, 0, none⟩) 1 1) [s] := by
  refine Kd.R_of_own (enc := Value.string) ⟨rfl, .inr ⟨W.heap.size, 1, #[Value.string s], rfl, Nat.le_refl _, blk_new W _, Nat.le_refl _, by decide, rfl, rfl⟩⟩ (fun _ _ => trivial)
theorem soS {w wb a w1 : World} {p q : Addr} {x y : Value} (hS : a.cell? p = some x ∧ a.cell? q = some y ∧ Below w.heap.size w a ∧ Below wb.heap.size wb a) (d : Below a.heap.size a w1) : w1.cell? p = some x ∧ w1.cell? q = some y ∧ Below w.heap.size w w1 ∧ Below wb.heap.size wb w1 :=
  ⟨(d.cell (World.block_lt_of_cell? a _ hS.1)).trans hS.1, (d.cell (World.block_lt_of_cell? a _ hS.2.1)).trans hS.2.1, below_then hS.2.2.1 hS.2.2.1.size d, below_then hS.2.2.2 hS.2.2.2.size d⟩
set_option maxRecDepth 100000 in
set_option maxHeartbeats 8000000 in
theorem sorted_calls (l : List ByteArray) (A0 : Option Addr) (c0 : Nat) (w : World) (hr0 : Kd.C Kd.string w A0 l.length l) (hc0 : l.length ≤ c0) (fits : Bool) (okS knS : ByteArray → Bool) (cmp : ByteArray → ByteArray → Int) (hcmp : Cmp cmp)
    (zf : ∀ w', Below w.heap.size w w' → Calls Tryz.prog 16 #[.slice A0 l.length c0] w' fun e w'' => e = .returned (.bool fits) ∧ Below w'.heap.size w' w'')
    (lvS : ByteArray → Bool) (bS : ByteArray → ByteArray) (RowS : ByteArray → Option Addr → Nat → Nat → World → Prop) (rb : ∀ s A n c w1 w2, RowS s A n c w1 → Below w1.heap.size w1 w2 → RowS s A n c w2)
    (fw : fits = true → ∀ s ∈ l, ∀ w', Below w.heap.size w w' → Calls Tryz.prog 17 #[.string s, .int .i64 3] w' fun e w'' => e = .returned (.bool (okS s)) ∧ Below w'.heap.size w' w'')
    (lp : fits = true → ∀ s ∈ l, okS s = true → ∀ w', Below w.heap.size w w' → Calls Tryz.prog 19 #[.string s] w' fun e w'' => ∃ (A : Option Addr) (n c : Nat), e = .returned (.agg #[.bool (lvS s), .slice A n c, .string (bS s), .string s]) ∧ RowS s A n c w'' ∧ Below w'.heap.size w' w'')
    (lk : fits = true → ∀ s ∈ l, okS s = true → ∀ (A : Option Addr) (n c g : Nat) (w' : World), Below w.heap.size w w' → RowS s A n c w' → w'.heap[g]? = some (Obj.cells #[Value.bool (lvS s), .slice A n c, .string (bS s), .string s] 37 (0, 0)) → Calls Tryz.prog 18 #[.slice (some ⟨g, 0, none⟩) 1 1] w' fun e w'' => e = .returned (.bool (knS s)) ∧ Below w'.heap.size w' w'')
    (ic : fits = true → (∀ s ∈ l, okS s = true ∧ knS s = true) → ∀ x ∈ l, ∀ y ∈ l, ∀ w', Below w.heap.size w w' → Calls Tryz.prog 11 #[.string x, .string y] w' fun e w'' => e = .returned (.tuple #[.int .i64 (cmp x y), .bool true]) ∧ Below w'.heap.size w' w'')
    (sc : fits = true → (∀ s ∈ l, okS s = true ∧ knS s = true) → ∀ x ∈ l, ∀ y ∈ l, ∀ (A : Option Addr) (n c : Nat) (B : Option Addr) (m d : Nat) (w' : World), Below w.heap.size w w' → RowS x A n c w' → RowS y B m d w' → Calls Tryz.prog 20 #[.agg #[.bool (lvS x), .slice A n c, .string (bS x), .string x], .agg #[.bool (lvS y), .slice B m d, .string (bS y), .string y]] w' fun e w'' => e = .returned (.tuple #[.int .i64 (cmp x y), .bool true]) ∧ Below w'.heap.size w' w'') :
    Calls Tryz.prog 5 #[.slice A0 l.length c0] w fun e w' => e = .returned (.bool true) ∧ Below w.heap.size w w' := by
  have HR0 := Aside0.mk hr0
  clear hr0
  cases fits with
  | false =>
    clear fw lp lk ic sc
    go_enter Tryz.func5, Tryz.ntmps5
    go_wp2_with (first | (go_at_call 16; (with_reducible refine (zf _ (Below.refl _ _)).mono ?_); rintro e w1 ⟨rfl, d1⟩; have D1 := Aside0.mk d1; clear d1 zf))
    go_ret
    exact ⟨rfl, D1.out⟩
  | true =>
    by_cases h14 : 14 < l.length
    · have f1 : (14 : Int) < (l.length : Int) := by omega
      clear fw lp lk ic sc h14
      go_enter Tryz.func5, Tryz.ntmps5
      go_wp2_with (first | (go_at_call 16; (with_reducible refine (zf _ (Below.refl _ _)).mono ?_); rintro e w1 ⟨rfl, d1⟩; have D1 := Aside0.mk d1; clear d1 zf))
      go_ret
      exact ⟨rfl, D1.out⟩
    · have f1 : ¬ (14 : Int) < (l.length : Int) := by omega
      have FW := Aside0.mk (fw rfl)
      have LP := Aside0.mk (lp rfl)
      have LK := Aside0.mk (lk rfl)
      have RB := Aside0.mk rb
      have IC := Aside0.mk (ic rfl)
      have SC := Aside0.mk (sc rfl)
      clear fw lp lk ic sc rb
      go_enter Tryz.func5, Tryz.ntmps5
      go_wp2_with (first | (go_at_call 16; (with_reducible refine (zf _ (Below.refl _ _)).mono ?_); rintro e w1 ⟨rfl, d1⟩; have D1 := Aside0.mk d1; clear d1 zf))
      go_loopw [23] (fun v23 wr => ∃ j : Nat, v23 = .int .i64 j ∧ j ≤ l.length ∧ (∀ s ∈ l.take j, okS s = true ∧ knS s = true) ∧ Below w.heap.size w wr) (fun v23 wr => l.length - (intOf v23).toNat)
      case atStart => exact ⟨0, rfl, Nat.zero_le _, by simp, D1.out⟩
      case round =>
        obtain ⟨j, rfl, hj, hgood, hbw⟩ := hrel
        have BL := Aside0.mk hbw
        clear hbw
        by_cases hlt : j < l.length
        · obtain ⟨ad, rfl, cx0⟩ := Kd.at_string (Kd.C_below HR0.out BL.out) (j : Int) (by omega) (by omega)
          rw [rdOf_nat _ _ j hlt, Int.toNat_natCast] at cx0
          have hm : l[j]'hlt ∈ l := List.getElem_mem hlt
          have fw := FW.out _ hm
          have lp := LP.out _ hm
          have lk := LK.out _ hm
          have GD := Aside0.mk (fun (h : okS (l[j]'hlt) = true ∧ knS (l[j]'hlt) = true) => show ∀ s ∈ l.take (j + 1), okS s = true ∧ knS s = true from fun s hs => by
            rw [List.take_succ_eq_append_getElem hlt] at hs
            rcases List.mem_append.1 hs with hs | hs
            · exact hgood s hs
            · rw [List.mem_singleton.1 hs]; exact h)
          generalize l[j]'hlt = s at *
          have wk : wrap64 ((j : Int) + 1) = ((j + 1 : Nat) : Int) := Pk.wr j (by omega)
          have g4 : (j : Int) < (l.length : Int) := Int.ofNat_lt.2 hlt
          have JL := Aside0.mk (show j + 1 ≤ l.length from hlt)
          clear hm hgood hj hlt
          cases ho : okS s with
          | false =>
            rw [ho] at fw
            clear lp lk GD ho
            go_wp2_with (first | (go_at_call 17; (with_reducible refine (fw _ BL.out).mono ?_); rintro e w3 ⟨rfl, d3⟩; have D3 := Aside0.mk (below_then BL.out BL.out.size d3); clear d3 fw))
            go_ret
            exact ⟨rfl, D3.out⟩
          | true =>
            rw [ho] at fw
            have lp := lp ho
            have lk := lk ho
            cases hk : knS s with
            | false =>
              rw [hk] at lk
              clear GD ho hk
              go_wp2_with (first | (go_at_call 17; (with_reducible refine (fw _ BL.out).mono ?_); rintro e w3 ⟨rfl, d3⟩; have D3 := Aside0.mk (below_then BL.out BL.out.size d3); clear d3 fw) | (go_at_call 19; (with_reducible refine (lp _ D3.out).mono ?_); rintro e w4 ⟨A, n, c, rfl, rw4, d4⟩; have D4 := Aside0.mk (below_then D3.out D3.out.size d4); have R4 := Aside0.mk rw4; clear d4 rw4 lp) | (go_at_call 18; (with_reducible refine (lk A n c _ _ (below_alloc D4.out (Obj.cells #[Value.bool (lvS s), .slice A n c, .string (bS s), .string s] 37)) (RB.out _ _ _ _ _ _ R4.out (below_alloc (Below.refl _ _) (Obj.cells #[Value.bool (lvS s), .slice A n c, .string (bS s), .string s] 37))) (blk_new w4 (Obj.cells #[Value.bool (lvS s), .slice A n c, .string (bS s), .string s] 37))).mono ?_); rintro e w5 ⟨rfl, d5⟩; have D5 := Aside0.mk (below_then (below_alloc D4.out (Obj.cells #[Value.bool (lvS s), .slice A n c, .string (bS s), .string s] 37)) (below_alloc D4.out (Obj.cells #[Value.bool (lvS s), .slice A n c, .string (bS s), .string s] 37)).size d5); clear d5 lk))
              go_ret
              exact ⟨rfl, D5.out⟩
            | true =>
              rw [hk] at lk
              have G2 := Aside0.mk (GD.out ⟨ho, hk⟩)
              clear GD ho hk
              go_wp2_with (first | (go_at_call 17; (with_reducible refine (fw _ BL.out).mono ?_); rintro e w3 ⟨rfl, d3⟩; have D3 := Aside0.mk (below_then BL.out BL.out.size d3); clear d3 fw) | (go_at_call 19; (with_reducible refine (lp _ D3.out).mono ?_); rintro e w4 ⟨A, n, c, rfl, rw4, d4⟩; have D4 := Aside0.mk (below_then D3.out D3.out.size d4); have R4 := Aside0.mk rw4; clear d4 rw4 lp) | (go_at_call 18; (with_reducible refine (lk A n c _ _ (below_alloc D4.out (Obj.cells #[Value.bool (lvS s), .slice A n c, .string (bS s), .string s] 37)) (RB.out _ _ _ _ _ _ R4.out (below_alloc (Below.refl _ _) (Obj.cells #[Value.bool (lvS s), .slice A n c, .string (bS s), .string s] 37))) (blk_new w4 (Obj.cells #[Value.bool (lvS s), .slice A n c, .string (bS s), .string s] 37))).mono ?_); rintro e w5 ⟨rfl, d5⟩; have D5 := Aside0.mk (below_then (below_alloc D4.out (Obj.cells #[Value.bool (lvS s), .slice A n c, .string (bS s), .string s] 37)) (below_alloc D4.out (Obj.cells #[Value.bool (lvS s), .slice A n c, .string (bS s), .string s] 37)).size d5); clear d5 lk))
              go_roundw
              case rel => exact ⟨j + 1, rfl, JL.out, G2.out, D5.out⟩
              case measure =>
                have := JL.out
                simp only [intOf]
                omega
        · have ej : j = l.length := by omega
          subst ej
          rw [List.take_length] at hgood
          have IC := Aside0.mk (IC.out hgood)
          have SC := Aside0.mk (SC.out hgood)
          have g4 : ¬ (l.length : Int) < (l.length : Int) := by omega
          have GD := Aside0.mk hgood
          clear hgood hlt hj FW LK
          go_wp2_with fail
          clear g4
          obtain ⟨wa, rfl⟩ : ∃ wa : World, wa = wr := ⟨_, rfl⟩
          go_loopw [5, 40] (fun v5 v40 wi => ∃ j : Nat, v40 = .int .i64 j ∧ j ≤ l.length ∧ Kd.R Kd.string 9 wi w.heap.size (fun _ => True) v5 (Ins.sort cmp [] (l.take j)) ∧ Below w.heap.size w wi) (fun v5 v40 wi => l.length - (intOf v40).toNat)
          case atStart => exact ⟨0, rfl, Nat.zero_le _, Kd.R_nil _ _ _ _ _, BL.out⟩
          case round =>
            obtain ⟨j, rfl, hj, hrow, hbw⟩ := hrel
            have BL := Aside0.mk hbw
            obtain ⟨A, c, rfl, hcc, hC⟩ := Kd.R_reads hrow
            clear hbw hrow
            have hmem : ∀ x ∈ Ins.sort cmp [] (l.take j), x ∈ l := fun x hx => by
              rcases (Ins.sort_mem (l.take j) []).1 hx with h | h
              · exact absurd h (by simp)
              · exact List.mem_of_mem_take h
            have hlen : (Ins.sort cmp [] (l.take j)).length = j := by rw [Ins.sort_len, List.length_take]; simp; omega
            by_cases hlt : j < l.length
            · obtain ⟨ad, rfl, cx0⟩ := Kd.at_string (Kd.C_below HR0.out BL.out) (j : Int) (by omega) (by omega)
              rw [rdOf_nat _ _ j hlt, Int.toNat_natCast] at cx0
              have hm : l[j]'hlt ∈ l := List.getElem_mem hlt
              have ins := sort_snoc cmp [] (l.take j) (l[j]'hlt)
              rw [← List.take_succ_eq_append_getElem hlt] at ins
              generalize l[j]'hlt = s at *
              generalize Ins.sort cmp [] (l.take j) = out at *
              have CC := Aside0.mk hcc
              have HC := Aside0.mk hC
              have INS0 := Aside0.mk ins
              have JL := Aside0.mk (show j + 1 ≤ l.length from hlt)
              have J14 : j ≤ 14 := by omega
              have OL := Aside0.mk hlen
              have wk : wrap64 ((j : Int) + 1) = ((j + 1 : Nat) : Int) := Pk.wr j (by omega)
              have g4 : (j : Int) < (l.length : Int) := Int.ofNat_lt.2 hlt
              clear ins hcc hC hlt hj hlen
              go_wp2_with fail
              obtain ⟨wb, rfl⟩ : ∃ wb : World, wb = wr := ⟨_, rfl⟩
              go_loopw [8] (fun v8 wk => ∃ k : Nat, v8 = .int .i64 k ∧ k ≤ out.length ∧ (∀ (i : Nat) (x : ByteArray), i < k → out[i]? = some x → ¬ cmp x s > 0) ∧ Below wb.heap.size wb wk) (fun v8 wk => out.length - (intOf v8).toNat)
              case atStart => exact ⟨0, rfl, Nat.zero_le _, fun i x hi => absurd hi (Nat.not_lt_zero _), Below.refl _ _⟩
              case round =>
                obtain ⟨k, rfl, hk, hno, hbk⟩ := hrel
                have BK0 := Aside0.mk hbk
                have BK := Aside0.mk (below_then BL.out BL.out.size hbk)
                have CKb := Kd.C_below HC.out hbk
                have BSZ := Aside0.mk (show w.heap.size ≤ wr.heap.size from BK.out.size)
                have KL := Aside0.mk hk
                have k14 : k ≤ 14 := by have := OL.out; omega
                have NA := Aside0.mk (show A = none → k = 0 from fun e => by
                  rcases Nat.eq_zero_or_pos out.length with h | h
                  · omega
                  · obtain ⟨ad, e2, _⟩ := HC.out.2.2 h
                    rw [e] at e2
                    cases e2)
                have LIM1 := Aside0.mk (show (([s] : List ByteArray).length + (out.length - k)) * 16 ≤ 140737488355328 by
                  have := OL.out
                  simp
                  omega)
                have LIM2 := Aside0.mk (show (k + ([s] ++ out.drop k).length) * 16 ≤ 140737488355328 by
                  rw [List.length_append, List.length_drop]
                  have := OL.out
                  simp
                  omega)
                clear hbk
                by_cases hlk : k < out.length
                · obtain ⟨ad2, rfl, cy0⟩ := Kd.at_string CKb (k : Int) (by omega) (by omega)
                  rw [rdOf_nat _ _ k hlk, Int.toNat_natCast] at cy0
                  have CK := Aside0.mk CKb
                  have hx := hmem _ (List.getElem_mem hlk)
                  have ic := IC.out _ hx s hm
                  have NX := Aside0.mk (fun (h : ¬ cmp (out[k]'hlk) s > 0) => show ∀ (i : Nat) (x : ByteArray), i < k + 1 → out[i]? = some x → ¬ cmp x s > 0 from fun i x hi he => by
                    rcases Nat.lt_or_ge i k with h2 | h2
                    · exact hno i x h2 he
                    · obtain rfl : i = k := by omega
                      rw [List.getElem?_eq_getElem hlk] at he
                      rw [← Option.some.inj he]; exact h)
                  have PL := Aside0.mk (fun (h : cmp (out[k]'hlk) s > 0) => Ins.place_of cmp s out k hk hno (fun x he => by rw [List.getElem?_eq_getElem hlk] at he; rw [← Option.some.inj he]; exact h))
                  generalize out[k]'hlk = x at *
                  generalize cmp x s = r at *
                  have wk2 : wrap64 ((k : Int) + 1) = ((k + 1 : Nat) : Int) := Pk.wr k (by omega)
                  have g5 : (k : Int) < (out.length : Int) := Int.ofNat_lt.2 hlk
                  have KN2 := Aside0.mk (show k + 1 ≤ out.length from hlk)
                  have f5 : (k : Int) ≤ (out.length : Int) := by omega
                  have f6 : k ≤ c := Nat.le_trans KL.out CC.out
                  have f7 : k ≤ out.length := KL.out
                  clear hno hlk hk CKb hx
                  by_cases hr : r > 0
                  · have INS := Aside0.mk (show Ins.sort cmp [] (l.take (j + 1)) = out.take k ++ ([s] ++ out.drop k) by rw [INS0.out]; unfold Ins.ins; rw [PL.out hr]; rfl)
                    have hr2 : (0 : Int) < r := hr
                    clear NX PL hr
                    go_wp2_with (first | (go_at_call 11; (with_reducible refine (ic _ BK.out).mono ?_); rintro e w5 ⟨rfl, d5⟩; have D5x := Aside0.mk d5; have D5 := Aside0.mk (below_then BK0.out BK0.out.size d5); have D6 := Aside0.mk (below_then BK.out BK.out.size d5); clear d5 ic))
                    have CK := Aside0.mk (Kd.C_below CK.out D5x.out)
                    have CDX := Aside0.mk (show Kd.C Kd.string w5 (if c = k then some ad2 else some (ad2.add k)) (out.length - k) (out.drop k) by
                      have h := Kd.C_drop (k := Kd.string) CK.out KL.out CC.out
                      rw [List.length_drop] at h
                      have e : (if c = k then some ad2 else Option.map (fun x => x.add (k * Kd.string.sz)) (some ad2)) = (if c = k then some ad2 else some (ad2.add k)) := by
                        show (if c = k then some ad2 else some (ad2.add (k * 1))) = _
                        rw [Nat.mul_one]
                      rw [e] at h
                      exact h)
                    have BSZ := Aside0.mk D6.out.size
                    refine start_ (n := 12) (S := fun w' => True) (ds := []) #[false, false, false, false, false, false, false, false, false, false, false, false] (by kernel_rfl) rfl rfl trivial (fun hHeld => ?_)
                    refine pure_ (i := 0) (N := some 63) (v := ?_) (a' := ?_) #[true, false, false, false, false, false, false, false, false, false, false, false] rfl rfl (by kernel_rfl) (fun _ _ _ h => h) (Or.inl ⟨by rfl, ?_⟩) ?_ ?_
                    rotate_left
                    · intro w'
                      go_simp
                      with_reducible rfl
                    rotate_left
                    · simp only [Act.put, List.setIfInBounds_toArray, List.set_cons_zero, List.set_cons_succ, i64_w, i32_w]
                      rfl
                    refine pure_ (i := 1) (N := some 64) (v := ?_) (a' := ?_) #[true, true, false, false, false, false, false, false, false, false, false, false] rfl rfl (by kernel_rfl) (fun _ _ _ h => h) (Or.inl ⟨by rfl, ?_⟩) ?_ ?_
                    rotate_left
                    · intro w'
                      go_simp
                      with_reducible rfl
                    rotate_left
                    · simp only [Act.put, List.setIfInBounds_toArray, List.set_cons_zero, List.set_cons_succ, i64_w, i32_w]
                      rfl
                    refine pure_ (i := 2) (N := some 65) (v := ?_) (a' := ?_) #[true, true, true, false, false, false, false, false, false, false, false, false] rfl rfl (by kernel_rfl) (fun _ _ _ h => h) (Or.inl ⟨by rfl, ?_⟩) ?_ ?_
                    rotate_left
                    · intro w'
                      go_simp
                      with_reducible rfl
                    rotate_left
                    · simp only [Act.put, List.setIfInBounds_toArray, List.set_cons_zero, List.set_cons_succ, i64_w, i32_w]
                      rfl
                    refine pure_ (i := 3) (N := some 66) (v := ?_) (a' := ?_) #[true, true, true, true, false, false, false, false, false, false, false, false] rfl rfl (by kernel_rfl) (fun _ _ _ h => h) (Or.inl ⟨by rfl, ?_⟩) ?_ ?_
                    rotate_left
                    · intro w'
                      go_simp
                      with_reducible rfl
                    rotate_left
                    · simp only [Act.put, List.setIfInBounds_toArray, List.set_cons_zero, List.set_cons_succ, i64_w, i32_w]
                      rfl
                    refine pure_ (i := 4) (N := some 67) (v := ?_) (a' := ?_) #[true, true, true, true, true, false, false, false, false, false, false, false] rfl rfl (by kernel_rfl) (fun _ _ _ h => h) (Or.inl ⟨by rfl, ?_⟩) ?_ ?_
                    rotate_left
                    · intro w'
                      go_simp
                      with_reducible rfl
                    rotate_left
                    · simp only [Act.put, List.setIfInBounds_toArray, List.set_cons_zero, List.set_cons_succ, i64_w, i32_w]
                      rfl
                    refine pure_ (i := 6) (N := some 69) (v := ?_) (a' := ?_) #[true, true, true, true, true, false, true, false, false, false, false, false] rfl rfl (by kernel_rfl) (fun _ _ _ h => h) (Or.inl ⟨by rfl, ?_⟩) ?_ ?_
                    rotate_left
                    · intro w'
                      go_simp
                      with_reducible rfl
                    rotate_left
                    · simp only [Act.put, List.setIfInBounds_toArray, List.set_cons_zero, List.set_cons_succ, i64_w, i32_w]
                      rfl
                    refine pure_ (i := 7) (N := some 70) (v := ?_) (a' := ?_) #[true, true, true, true, true, false, true, true, false, false, false, false] rfl rfl (by kernel_rfl) (fun _ _ _ h => h) (Or.inl ⟨by rfl, ?_⟩) ?_ ?_
                    rotate_left
                    · intro w'
                      go_simp
                      with_reducible rfl
                    rotate_left
                    · simp only [Act.put, List.setIfInBounds_toArray, List.set_cons_zero, List.set_cons_succ, i64_w, i32_w]
                      rfl
                    refine pure_ (i := 8) (N := some 71) (v := ?_) (a' := ?_) #[true, true, true, true, true, false, true, true, true, false, false, false] rfl rfl (by kernel_rfl) (fun _ _ _ h => h) (Or.inl ⟨by rfl, ?_⟩) ?_ ?_
                    rotate_left
                    · intro w'
                      go_simp
                      with_reducible rfl
                    rotate_left
                    · simp only [Act.put, List.setIfInBounds_toArray, List.set_cons_zero, List.set_cons_succ, i64_w, i32_w]
                      rfl
                    refine one_ (i := 5) (N := some 68) #[true, true, true, true, true, true, true, true, true, false, false, false] rfl rfl (by kernel_rfl) (by decide) (fun K hK => ?_)
                    refine value_ (w1 := ?_) (v := ?_) (by rfl) rfl ?_ ?_
                    rotate_left 2
                    · go_simp
                      constructor
                      · rfl
                      · rfl
                    refine hK.out _ _ trivial (fun hHeld => ?_)
                    clear hK K
                    refine norm_ (a' := ?_) ?_ ?_
                    rotate_left
                    · show Act.put _ (some 68) _ = _
                      simp only [Act.put, List.setIfInBounds_toArray, List.set_cons_zero, List.set_cons_succ, i64_w, i32_w]
                      rfl
                    refine one_ (i := 9) (N := some 72) #[true, true, true, true, true, true, true, true, true, true, false, false] rfl rfl (by kernel_rfl) (by decide) (fun K hK => ?_)
                    have LT := Aside0.mk (own_lit1 (t := 9) w5.drew s)
                    have CD0 := Aside0.mk (show Kd.C Kd.string (w5.drew.alloc (Obj.cells #[Value.string s] 9)) (if c = k then some ad2 else some (ad2.add k)) (out.length - k) (out.drop k) from Kd.C_below CDX.out (below_alloc (Below.drew (Below.refl _ _)) _))
                    refine Kd.R_append_rows_step Kd.string (w0 := w5.drew) w5.drew.heap.size (by rfl) (.tmp 68) (.tmp 71) 25 9 (.string ⟨#[]⟩) 16 rfl Tryz.underlying25 ins_infoStr rfl (by decide) (by omega) (.slice (some ⟨w5.drew.heap.size, 0, none⟩) 1 1) [s] (out.drop k) (if c = k then some ad2 else some (ad2.add k)) (out.length - k) (c - k) (fun _ => True) (fun _ => False) rfl rfl LT.out CD0.out (fun _ _ h => h) (fun _ h => h.elim) (fun _ _ => trivial) (below_alloc (Below.refl _ _) _) (by simp) LIM1.out ?_
                    intro v1 w1 ho1 hb1 hg1 hat1
                    obtain ⟨A1, c1, rfl, hc1, hC1⟩ := Kd.R_reads ho1
                    have C1 := Aside0.mk hC1; have B1 := Aside0.mk (below_then (Below.drew (Below.refl w5.heap.size w5)) (Nat.le_refl _) hb1)
                    clear ho1 hb1 hg1 hat1 hC1
                    refine hK.out _ _ trivial (fun hHeld => ?_)
                    clear hK K
                    refine norm_ (a' := ?_) ?_ ?_
                    rotate_left
                    · show Act.put _ (some 72) _ = _
                      simp only [Act.put, List.setIfInBounds_toArray, List.set_cons_zero, List.set_cons_succ, i64_w, i32_w]
                      rfl
                    refine one_ (i := 10) (N := some 73) #[true, true, true, true, true, true, true, true, true, true, true, false] rfl rfl (by kernel_rfl) (by decide) (fun K hK => ?_)
                    refine appendFull_step (by rfl) (.tmp 66) (.tmp 72) 25 9 rfl Tryz.underlying25 ins_infoStr (some ad2) k (out.take k) ([s] ++ out.drop k) A1 ([s] ++ out.drop k).length c1 rfl rfl (by have := Kd.C_take (k := Kd.string) (Kd.C_below CK.out B1.out) KL.out; rw [List.length_take, Nat.min_eq_left KL.out] at this; exact this) (fun e => nomatch e) C1.out (by simp) LIM2.out ?_
                    intro v2 w2 ho2 hb2
                    have B2 := Aside0.mk (below_then B1.out B1.out.size hb2)
                    have O2 := Aside0.mk (Kd.R_lower ho2 (Nat.le_trans BSZ.out B1.out.size))
                    clear ho2 hb2
                    refine hK.out _ _ trivial (fun hHeld => ?_)
                    clear hK K
                    refine norm_ (a' := ?_) ?_ ?_
                    rotate_left
                    · show Act.put _ (some 73) _ = _
                      simp only [Act.put, List.setIfInBounds_toArray, List.set_cons_zero, List.set_cons_succ, i64_w, i32_w]
                      rfl
                    refine pure_ (i := 11) (N := some 5) (v := ?_) (a' := ?_) #[true, true, true, true, true, true, true, true, true, true, true, true] rfl rfl (by kernel_rfl) (fun _ _ _ h => h) (Or.inl ⟨by rfl, ?_⟩) ?_ ?_
                    rotate_left
                    · intro w'
                      go_simp
                      with_reducible rfl
                    rotate_left
                    · simp only [Act.put, List.setIfInBounds_toArray, List.set_cons_zero, List.set_cons_succ, i64_w, i32_w]
                      rfl
                    refine done_ (by kernel_rfl) ?_
                    go_wp2_with fail
                    go_roundw
                    case rel => exact ⟨j + 1, rfl, JL.out, by rw [INS.out]; exact O2.out, below_then D6.out D6.out.size B2.out⟩
                    case measure =>
                      have := JL.out
                      simp only [intOf]
                      omega
                  · have N2 := Aside0.mk (NX.out hr)
                    have hr2 : ¬ (0 : Int) < r := hr
                    clear NX PL hr
                    go_wp2_with (first | (go_at_call 11; (with_reducible refine (ic _ BK.out).mono ?_); rintro e w5 ⟨rfl, d5⟩; have D5x := Aside0.mk d5; have D5 := Aside0.mk (below_then BK0.out BK0.out.size d5); have D6 := Aside0.mk (below_then BK.out BK.out.size d5); clear d5 ic))
                    go_roundw
                    case rel => exact ⟨k + 1, rfl, KN2.out, fun i x hi he => by have := N2.out i x hi he; omega, D5.out⟩
                    case measure =>
                      have := KN2.out
                      simp only [intOf]
                      omega
                · have ek : k = out.length := by omega
                  have g5 : ¬ (k : Int) < (out.length : Int) := by omega
                  have f5 : (k : Int) ≤ (out.length : Int) := by omega
                  have f6 : k ≤ c := Nat.le_trans KL.out CC.out
                  have f7 : k ≤ out.length := KL.out
                  have INS := Aside0.mk (show Ins.sort cmp [] (l.take (j + 1)) = out.take k ++ ([s] ++ out.drop k) by
                    rw [INS0.out]
                    unfold Ins.ins
                    rw [Ins.place_of cmp s out k hk hno (fun x he => by rw [ek, List.getElem?_eq_none (Nat.le_refl _)] at he; cases he)]
                    rfl)
                  have CK := Aside0.mk CKb
                  clear hno hlk hk CKb ek
                  cases A with
                  | none =>
                    have CDX := Aside0.mk (show Kd.C Kd.string wr none (out.length - k) (out.drop k) by
                      have h := Kd.C_drop (k := Kd.string) CK.out KL.out CC.out
                      rw [List.length_drop] at h
                      have e : (if c = k then none else Option.map (fun x => x.add (k * Kd.string.sz)) (none : Option Addr)) = none := by split <;> rfl
                      rw [e] at h
                      exact h)
                    go_wp2_with fail
                    refine start_ (n := 12) (S := fun w' => True) (ds := []) #[false, false, false, false, false, false, false, false, false, false, false, false] (by kernel_rfl) rfl rfl trivial (fun hHeld => ?_)
                    refine pure_ (i := 0) (N := some 63) (v := ?_) (a' := ?_) #[true, false, false, false, false, false, false, false, false, false, false, false] rfl rfl (by kernel_rfl) (fun _ _ _ h => h) (Or.inl ⟨by rfl, ?_⟩) ?_ ?_
                    rotate_left
                    · intro w'
                      go_simp
                      with_reducible rfl
                    rotate_left
                    · simp only [Act.put, List.setIfInBounds_toArray, List.set_cons_zero, List.set_cons_succ, i64_w, i32_w]
                      rfl
                    refine pure_ (i := 1) (N := some 64) (v := ?_) (a' := ?_) #[true, true, false, false, false, false, false, false, false, false, false, false] rfl rfl (by kernel_rfl) (fun _ _ _ h => h) (Or.inl ⟨by rfl, ?_⟩) ?_ ?_
                    rotate_left
                    · intro w'
                      go_simp
                      with_reducible rfl
                    rotate_left
                    · simp only [Act.put, List.setIfInBounds_toArray, List.set_cons_zero, List.set_cons_succ, i64_w, i32_w]
                      rfl
                    refine pure_ (i := 2) (N := some 65) (v := ?_) (a' := ?_) #[true, true, true, false, false, false, false, false, false, false, false, false] rfl rfl (by kernel_rfl) (fun _ _ _ h => h) (Or.inl ⟨by rfl, ?_⟩) ?_ ?_
                    rotate_left
                    · intro w'
                      go_simp
                      with_reducible rfl
                    rotate_left
                    · simp only [Act.put, List.setIfInBounds_toArray, List.set_cons_zero, List.set_cons_succ, i64_w, i32_w]
                      rfl
                    refine pure_ (i := 3) (N := some 66) (v := ?_) (a' := ?_) #[true, true, true, true, false, false, false, false, false, false, false, false] rfl rfl (by kernel_rfl) (fun _ _ _ h => h) (Or.inl ⟨by rfl, ?_⟩) ?_ ?_
                    rotate_left
                    · intro w'
                      go_simp
                      with_reducible rfl
                    rotate_left
                    · simp only [Act.put, List.setIfInBounds_toArray, List.set_cons_zero, List.set_cons_succ, i64_w, i32_w]
                      rfl
                    refine pure_ (i := 4) (N := some 67) (v := ?_) (a' := ?_) #[true, true, true, true, true, false, false, false, false, false, false, false] rfl rfl (by kernel_rfl) (fun _ _ _ h => h) (Or.inl ⟨by rfl, ?_⟩) ?_ ?_
                    rotate_left
                    · intro w'
                      go_simp
                      with_reducible rfl
                    rotate_left
                    · simp only [Act.put, List.setIfInBounds_toArray, List.set_cons_zero, List.set_cons_succ, i64_w, i32_w]
                      rfl
                    refine pure_ (i := 6) (N := some 69) (v := ?_) (a' := ?_) #[true, true, true, true, true, false, true, false, false, false, false, false] rfl rfl (by kernel_rfl) (fun _ _ _ h => h) (Or.inl ⟨by rfl, ?_⟩) ?_ ?_
                    rotate_left
                    · intro w'
                      go_simp
                      with_reducible rfl
                    rotate_left
                    · simp only [Act.put, List.setIfInBounds_toArray, List.set_cons_zero, List.set_cons_succ, i64_w, i32_w]
                      rfl
                    refine pure_ (i := 7) (N := some 70) (v := ?_) (a' := ?_) #[true, true, true, true, true, false, true, true, false, false, false, false] rfl rfl (by kernel_rfl) (fun _ _ _ h => h) (Or.inl ⟨by rfl, ?_⟩) ?_ ?_
                    rotate_left
                    · intro w'
                      go_simp
                      with_reducible rfl
                    rotate_left
                    · simp only [Act.put, List.setIfInBounds_toArray, List.set_cons_zero, List.set_cons_succ, i64_w, i32_w]
                      rfl
                    refine pure_ (i := 8) (N := some 71) (v := ?_) (a' := ?_) #[true, true, true, true, true, false, true, true, true, false, false, false] rfl rfl (by kernel_rfl) (fun _ _ _ h => h) (Or.inl ⟨by rfl, ?_⟩) ?_ ?_
                    rotate_left
                    · intro w'
                      go_simp
                      with_reducible rfl
                    rotate_left
                    · simp only [Act.put, List.setIfInBounds_toArray, List.set_cons_zero, List.set_cons_succ, i64_w, i32_w]
                      rfl
                    refine one_ (i := 5) (N := some 68) #[true, true, true, true, true, true, true, true, true, false, false, false] rfl rfl (by kernel_rfl) (by decide) (fun K hK => ?_)
                    refine value_ (w1 := ?_) (v := ?_) (by rfl) rfl ?_ ?_
                    rotate_left 2
                    · go_simp
                      constructor
                      · rfl
                      · rfl
                    refine hK.out _ _ trivial (fun hHeld => ?_)
                    clear hK K
                    refine norm_ (a' := ?_) ?_ ?_
                    rotate_left
                    · show Act.put _ (some 68) _ = _
                      simp only [Act.put, List.setIfInBounds_toArray, List.set_cons_zero, List.set_cons_succ, i64_w, i32_w]
                      rfl
                    refine one_ (i := 9) (N := some 72) #[true, true, true, true, true, true, true, true, true, true, false, false] rfl rfl (by kernel_rfl) (by decide) (fun K hK => ?_)
                    have LT := Aside0.mk (own_lit1 (t := 9) wr.drew s)
                    have CD0 := Aside0.mk (show Kd.C Kd.string (wr.drew.alloc (Obj.cells #[Value.string s] 9)) none (out.length - k) (out.drop k) from Kd.C_below CDX.out (below_alloc (Below.drew (Below.refl _ _)) _))
                    refine Kd.R_append_rows_step Kd.string (w0 := wr.drew) wr.drew.heap.size (by rfl) (.tmp 68) (.tmp 71) 25 9 (.string ⟨#[]⟩) 16 rfl Tryz.underlying25 ins_infoStr rfl (by decide) (by omega) (.slice (some ⟨wr.drew.heap.size, 0, none⟩) 1 1) [s] (out.drop k) none (out.length - k) (c - k) (fun _ => True) (fun _ => False) rfl rfl LT.out CD0.out (fun _ _ h => h) (fun _ h => h.elim) (fun _ _ => trivial) (below_alloc (Below.refl _ _) _) (by simp) LIM1.out ?_
                    intro v1 w1 ho1 hb1 hg1 hat1
                    obtain ⟨A1, c1, rfl, hc1, hC1⟩ := Kd.R_reads ho1
                    have C1 := Aside0.mk hC1; have B1 := Aside0.mk (below_then (Below.drew (Below.refl wr.heap.size wr)) (Nat.le_refl _) hb1)
                    clear ho1 hb1 hg1 hat1 hC1
                    refine hK.out _ _ trivial (fun hHeld => ?_)
                    clear hK K
                    refine norm_ (a' := ?_) ?_ ?_
                    rotate_left
                    · show Act.put _ (some 72) _ = _
                      simp only [Act.put, List.setIfInBounds_toArray, List.set_cons_zero, List.set_cons_succ, i64_w, i32_w]
                      rfl
                    refine one_ (i := 10) (N := some 73) #[true, true, true, true, true, true, true, true, true, true, true, false] rfl rfl (by kernel_rfl) (by decide) (fun K hK => ?_)
                    refine appendFull_step (by rfl) (.tmp 66) (.tmp 72) 25 9 rfl Tryz.underlying25 ins_infoStr none k (out.take k) ([s] ++ out.drop k) A1 ([s] ++ out.drop k).length c1 rfl rfl (by have := Kd.C_take (k := Kd.string) (Kd.C_below CK.out B1.out) KL.out; rw [List.length_take, Nat.min_eq_left KL.out] at this; exact this) (fun _ => by first | exact NA.out trivial | exact NA.out rfl) C1.out (by simp) LIM2.out ?_
                    intro v2 w2 ho2 hb2
                    have B2 := Aside0.mk (below_then B1.out B1.out.size hb2)
                    have O2 := Aside0.mk (Kd.R_lower ho2 (Nat.le_trans BSZ.out B1.out.size))
                    clear ho2 hb2
                    refine hK.out _ _ trivial (fun hHeld => ?_)
                    clear hK K
                    refine norm_ (a' := ?_) ?_ ?_
                    rotate_left
                    · show Act.put _ (some 73) _ = _
                      simp only [Act.put, List.setIfInBounds_toArray, List.set_cons_zero, List.set_cons_succ, i64_w, i32_w]
                      rfl
                    refine pure_ (i := 11) (N := some 5) (v := ?_) (a' := ?_) #[true, true, true, true, true, true, true, true, true, true, true, true] rfl rfl (by kernel_rfl) (fun _ _ _ h => h) (Or.inl ⟨by rfl, ?_⟩) ?_ ?_
                    rotate_left
                    · intro w'
                      go_simp
                      with_reducible rfl
                    rotate_left
                    · simp only [Act.put, List.setIfInBounds_toArray, List.set_cons_zero, List.set_cons_succ, i64_w, i32_w]
                      rfl
                    refine done_ (by kernel_rfl) ?_
                    go_wp2_with fail
                    go_roundw
                    case rel => exact ⟨j + 1, rfl, JL.out, by rw [INS.out]; exact O2.out, below_then BK.out BK.out.size B2.out⟩
                    case measure =>
                      have := JL.out
                      simp only [intOf]
                      omega
                  | some ad2 =>
                    have CDX := Aside0.mk (show Kd.C Kd.string wr (if c = k then some ad2 else some (ad2.add k)) (out.length - k) (out.drop k) by
                      have h := Kd.C_drop (k := Kd.string) CK.out KL.out CC.out
                      rw [List.length_drop] at h
                      have e : (if c = k then some ad2 else Option.map (fun x => x.add (k * Kd.string.sz)) (some ad2)) = (if c = k then some ad2 else some (ad2.add k)) := by
                        show (if c = k then some ad2 else some (ad2.add (k * 1))) = _
                        rw [Nat.mul_one]
                      rw [e] at h
                      exact h)
                    go_wp2_with fail
                    refine start_ (n := 12) (S := fun w' => True) (ds := []) #[false, false, false, false, false, false, false, false, false, false, false, false] (by kernel_rfl) rfl rfl trivial (fun hHeld => ?_)
                    refine pure_ (i := 0) (N := some 63) (v := ?_) (a' := ?_) #[true, false, false, false, false, false, false, false, false, false, false, false] rfl rfl (by kernel_rfl) (fun _ _ _ h => h) (Or.inl ⟨by rfl, ?_⟩) ?_ ?_
                    rotate_left
                    · intro w'
                      go_simp
                      with_reducible rfl
                    rotate_left
                    · simp only [Act.put, List.setIfInBounds_toArray, List.set_cons_zero, List.set_cons_succ, i64_w, i32_w]
                      rfl
                    refine pure_ (i := 1) (N := some 64) (v := ?_) (a' := ?_) #[true, true, false, false, false, false, false, false, false, false, false, false] rfl rfl (by kernel_rfl) (fun _ _ _ h => h) (Or.inl ⟨by rfl, ?_⟩) ?_ ?_
                    rotate_left
                    · intro w'
                      go_simp
                      with_reducible rfl
                    rotate_left
                    · simp only [Act.put, List.setIfInBounds_toArray, List.set_cons_zero, List.set_cons_succ, i64_w, i32_w]
                      rfl
                    refine pure_ (i := 2) (N := some 65) (v := ?_) (a' := ?_) #[true, true, true, false, false, false, false, false, false, false, false, false] rfl rfl (by kernel_rfl) (fun _ _ _ h => h) (Or.inl ⟨by rfl, ?_⟩) ?_ ?_
                    rotate_left
                    · intro w'
                      go_simp
                      with_reducible rfl
                    rotate_left
                    · simp only [Act.put, List.setIfInBounds_toArray, List.set_cons_zero, List.set_cons_succ, i64_w, i32_w]
                      rfl
                    refine pure_ (i := 3) (N := some 66) (v := ?_) (a' := ?_) #[true, true, true, true, false, false, false, false, false, false, false, false] rfl rfl (by kernel_rfl) (fun _ _ _ h => h) (Or.inl ⟨by rfl, ?_⟩) ?_ ?_
                    rotate_left
                    · intro w'
                      go_simp
                      with_reducible rfl
                    rotate_left
                    · simp only [Act.put, List.setIfInBounds_toArray, List.set_cons_zero, List.set_cons_succ, i64_w, i32_w]
                      rfl
                    refine pure_ (i := 4) (N := some 67) (v := ?_) (a' := ?_) #[true, true, true, true, true, false, false, false, false, false, false, false] rfl rfl (by kernel_rfl) (fun _ _ _ h => h) (Or.inl ⟨by rfl, ?_⟩) ?_ ?_
                    rotate_left
                    · intro w'
                      go_simp
                      with_reducible rfl
                    rotate_left
                    · simp only [Act.put, List.setIfInBounds_toArray, List.set_cons_zero, List.set_cons_succ, i64_w, i32_w]
                      rfl
                    refine pure_ (i := 6) (N := some 69) (v := ?_) (a' := ?_) #[true, true, true, true, true, false, true, false, false, false, false, false] rfl rfl (by kernel_rfl) (fun _ _ _ h => h) (Or.inl ⟨by rfl, ?_⟩) ?_ ?_
                    rotate_left
                    · intro w'
                      go_simp
                      with_reducible rfl
                    rotate_left
                    · simp only [Act.put, List.setIfInBounds_toArray, List.set_cons_zero, List.set_cons_succ, i64_w, i32_w]
                      rfl
                    refine pure_ (i := 7) (N := some 70) (v := ?_) (a' := ?_) #[true, true, true, true, true, false, true, true, false, false, false, false] rfl rfl (by kernel_rfl) (fun _ _ _ h => h) (Or.inl ⟨by rfl, ?_⟩) ?_ ?_
                    rotate_left
                    · intro w'
                      go_simp
                      with_reducible rfl
                    rotate_left
                    · simp only [Act.put, List.setIfInBounds_toArray, List.set_cons_zero, List.set_cons_succ, i64_w, i32_w]
                      rfl
                    refine pure_ (i := 8) (N := some 71) (v := ?_) (a' := ?_) #[true, true, true, true, true, false, true, true, true, false, false, false] rfl rfl (by kernel_rfl) (fun _ _ _ h => h) (Or.inl ⟨by rfl, ?_⟩) ?_ ?_
                    rotate_left
                    · intro w'
                      go_simp
                      with_reducible rfl
                    rotate_left
                    · simp only [Act.put, List.setIfInBounds_toArray, List.set_cons_zero, List.set_cons_succ, i64_w, i32_w]
                      rfl
                    refine one_ (i := 5) (N := some 68) #[true, true, true, true, true, true, true, true, true, false, false, false] rfl rfl (by kernel_rfl) (by decide) (fun K hK => ?_)
                    refine value_ (w1 := ?_) (v := ?_) (by rfl) rfl ?_ ?_
                    rotate_left 2
                    · go_simp
                      constructor
                      · rfl
                      · rfl
                    refine hK.out _ _ trivial (fun hHeld => ?_)
                    clear hK K
                    refine norm_ (a' := ?_) ?_ ?_
                    rotate_left
                    · show Act.put _ (some 68) _ = _
                      simp only [Act.put, List.setIfInBounds_toArray, List.set_cons_zero, List.set_cons_succ, i64_w, i32_w]
                      rfl
                    refine one_ (i := 9) (N := some 72) #[true, true, true, true, true, true, true, true, true, true, false, false] rfl rfl (by kernel_rfl) (by decide) (fun K hK => ?_)
                    have LT := Aside0.mk (own_lit1 (t := 9) wr.drew s)
                    have CD0 := Aside0.mk (show Kd.C Kd.string (wr.drew.alloc (Obj.cells #[Value.string s] 9)) (if c = k then some ad2 else some (ad2.add k)) (out.length - k) (out.drop k) from Kd.C_below CDX.out (below_alloc (Below.drew (Below.refl _ _)) _))
                    refine Kd.R_append_rows_step Kd.string (w0 := wr.drew) wr.drew.heap.size (by rfl) (.tmp 68) (.tmp 71) 25 9 (.string ⟨#[]⟩) 16 rfl Tryz.underlying25 ins_infoStr rfl (by decide) (by omega) (.slice (some ⟨wr.drew.heap.size, 0, none⟩) 1 1) [s] (out.drop k) (if c = k then some ad2 else some (ad2.add k)) (out.length - k) (c - k) (fun _ => True) (fun _ => False) rfl rfl LT.out CD0.out (fun _ _ h => h) (fun _ h => h.elim) (fun _ _ => trivial) (below_alloc (Below.refl _ _) _) (by simp) LIM1.out ?_
                    intro v1 w1 ho1 hb1 hg1 hat1
                    obtain ⟨A1, c1, rfl, hc1, hC1⟩ := Kd.R_reads ho1
                    have C1 := Aside0.mk hC1; have B1 := Aside0.mk (below_then (Below.drew (Below.refl wr.heap.size wr)) (Nat.le_refl _) hb1)
                    clear ho1 hb1 hg1 hat1 hC1
                    refine hK.out _ _ trivial (fun hHeld => ?_)
                    clear hK K
                    refine norm_ (a' := ?_) ?_ ?_
                    rotate_left
                    · show Act.put _ (some 72) _ = _
                      simp only [Act.put, List.setIfInBounds_toArray, List.set_cons_zero, List.set_cons_succ, i64_w, i32_w]
                      rfl
                    refine one_ (i := 10) (N := some 73) #[true, true, true, true, true, true, true, true, true, true, true, false] rfl rfl (by kernel_rfl) (by decide) (fun K hK => ?_)
                    refine appendFull_step (by rfl) (.tmp 66) (.tmp 72) 25 9 rfl Tryz.underlying25 ins_infoStr (some ad2) k (out.take k) ([s] ++ out.drop k) A1 ([s] ++ out.drop k).length c1 rfl rfl (by have := Kd.C_take (k := Kd.string) (Kd.C_below CK.out B1.out) KL.out; rw [List.length_take, Nat.min_eq_left KL.out] at this; exact this) (fun e => nomatch e) C1.out (by simp) LIM2.out ?_
                    intro v2 w2 ho2 hb2
                    have B2 := Aside0.mk (below_then B1.out B1.out.size hb2)
                    have O2 := Aside0.mk (Kd.R_lower ho2 (Nat.le_trans BSZ.out B1.out.size))
                    clear ho2 hb2
                    refine hK.out _ _ trivial (fun hHeld => ?_)
                    clear hK K
                    refine norm_ (a' := ?_) ?_ ?_
                    rotate_left
                    · show Act.put _ (some 73) _ = _
                      simp only [Act.put, List.setIfInBounds_toArray, List.set_cons_zero, List.set_cons_succ, i64_w, i32_w]
                      rfl
                    refine pure_ (i := 11) (N := some 5) (v := ?_) (a' := ?_) #[true, true, true, true, true, true, true, true, true, true, true, true] rfl rfl (by kernel_rfl) (fun _ _ _ h => h) (Or.inl ⟨by rfl, ?_⟩) ?_ ?_
                    rotate_left
                    · intro w'
                      go_simp
                      with_reducible rfl
                    rotate_left
                    · simp only [Act.put, List.setIfInBounds_toArray, List.set_cons_zero, List.set_cons_succ, i64_w, i32_w]
                      rfl
                    refine done_ (by kernel_rfl) ?_
                    go_wp2_with fail
                    go_roundw
                    case rel => exact ⟨j + 1, rfl, JL.out, by rw [INS.out]; exact O2.out, below_then BK.out BK.out.size B2.out⟩
                    case measure =>
                      have := JL.out
                      simp only [intOf]
                      omega
            · have ej : j = l.length := by omega
              subst ej
              rw [List.take_length] at hmem hC hcc hlen ⊢
              have hsort := Ins.sort_sorted hcmp l [] List.Pairwise.nil
              generalize Ins.sort cmp [] l = out at *
              have HC := Aside0.mk hC
              have OL := Aside0.mk hlen
              have SO := Aside0.mk hsort
              have MM := Aside0.mk hmem
              have g4 : ¬ (l.length : Int) < (l.length : Int) := by omega
              clear hcc hlt hj hlen hsort hmem hC
              go_wp2_with fail
              clear g4
              obtain ⟨wb, rfl⟩ : ∃ wb : World, wb = wr := ⟨_, rfl⟩
              go_loopw [77] (fun v77 wi => ∃ i : Nat, v77 = .int .i64 i ∧ i ≤ out.length ∧ Below wb.heap.size wb wi) (fun v77 wi => out.length - (intOf v77).toNat)
              case atStart => exact ⟨0, rfl, Nat.zero_le _, Below.refl _ _⟩
              case round =>
                obtain ⟨i, rfl, hi, hbi⟩ := hrel
                have BI := Aside0.mk hbi
                clear hbi
                by_cases hlt : i < out.length
                · have g4 : (i : Int) < (out.length : Int) := Int.ofNat_lt.2 hlt
                  have i14 : i ≤ 14 := by have := OL.out; omega
                  have wk : wrap64 ((i : Int) + 1) = ((i + 1 : Nat) : Int) := Pk.wr i (by omega)
                  have IL := Aside0.mk hlt
                  have xi : out[i]? = some (out[i]'hlt) := List.getElem?_eq_getElem hlt
                  have mi := MM.out _ (List.getElem_mem hlt)
                  have ci := fun (w' : World) (h : Below wr.heap.size wr w') => (show Below wr.heap.size wr w' from h)
                  clear hi ci
                  go_wp2_with fail
                  obtain ⟨wd, rfl⟩ : ∃ wd : World, wd = wr := ⟨_, rfl⟩
                  go_loopw [12] (fun v12 wk => ∃ k : Nat, v12 = .int .i64 k ∧ k ≤ out.length ∧ i < k ∧ Below wb.heap.size wb wk) (fun v12 wk => out.length - (intOf v12).toNat)
                  case atStart => exact ⟨i + 1, rfl, IL.out, Nat.lt_succ_self _, BI.out⟩
                  case round =>
                    obtain ⟨k, rfl, hk, hik, hbk⟩ := hrel
                    have BK0 := Aside0.mk hbk
                    have BK := Aside0.mk (below_then BL.out BL.out.size hbk)
                    have CK := Kd.C_below HC.out hbk
                    clear hbk
                    by_cases hlk : k < out.length
                    · obtain ⟨ad2, rfl, cy0⟩ := Kd.at_string CK (k : Int) (by omega) (by omega)
                      obtain ⟨ad3, e3, cx0⟩ := Kd.at_string CK (i : Int) (by omega) (by omega)
                      obtain rfl := Option.some.inj e3
                      rw [rdOf_nat _ _ k hlk, Int.toNat_natCast] at cy0
                      rw [rdOf_nat _ _ i hlt, Int.toNat_natCast] at cx0
                      have le0 := Ins.sorted_at SO.out i k hik _ _ xi (List.getElem?_eq_getElem hlk)
                      have sc := SC.out _ mi _ (MM.out _ (List.getElem_mem hlk))
                      have lpx := LP.out _ mi (GD.out _ mi).1
                      have lpy := LP.out _ (MM.out _ (List.getElem_mem hlk)) (GD.out _ (MM.out _ (List.getElem_mem hlk))).1
                      generalize out[i]'hlt = x at *
                      generalize out[k]'hlk = y at *
                      generalize cmp x y = r at *
                      have hr2 : ¬ (0 : Int) < r := by omega
                      have k14 : k ≤ 14 := by have := OL.out; omega
                      have wk2 : wrap64 ((k : Int) + 1) = ((k + 1 : Nat) : Int) := Pk.wr k (by omega)
                      have g5 : (k : Int) < (out.length : Int) := Int.ofNat_lt.2 hlk
                      have KL := Aside0.mk (show k + 1 ≤ out.length from hlk)
                      have IK := Aside0.mk (show i < k + 1 by omega)
                      clear hlk hk hik CK le0
                      have HD : wr.drew.cell? (ad2.add k) = some (.string y) ∧ wr.drew.cell? (ad2.add i) = some (.string x) ∧ Below w.heap.size w wr.drew ∧ Below wb.heap.size wb wr.drew := soS ⟨cy0, cx0, BK.out, BK0.out⟩ (Below.drew (Below.refl _ _))
                      clear cy0 cx0
                      go_wp2_with fail
                      go_region_held3 (fun w' => w'.cell? (ad2.add k) = some (.string y) ∧ w'.cell? (ad2.add i) = some (.string x) ∧ Below w.heap.size w w' ∧ Below wb.heap.size wb w') (first | (with_reducible assumption) | (with_reducible exact soS (by with_reducible assumption) (by with_reducible assumption))) (first | (go_at_call 19; (with_reducible refine (lpx _ HD.2.2.1).mono ?_); rintro e w5 ⟨A5, n5, c5, rfl, r5, d5⟩; have HE1 := below_then HD.2.2.1 HD.2.2.1.size d5; have HF1 := below_then HD.2.2.2 HD.2.2.2.size d5) | (go_at_call 19; (with_reducible refine (lpy _ HE1).mono ?_); rintro e w6 ⟨A6, n6, c6, rfl, r6, d6⟩; have HE2 := below_then HE1 HE1.size d6; have HF2 := below_then HF1 HF1.size d6; have r56 := RB.out _ _ _ _ _ _ r5 d6) | (go_at_call 20; (with_reducible refine (sc _ _ _ _ _ _ _ HE2 r56 r6).mono ?_); rintro e w7 ⟨rfl, d7⟩; have HE3 := below_then HE2 HE2.size d7; have HF3 := below_then HF2 HF2.size d7))
                      go_wp2_with fail
                      go_roundw
                      case rel => exact ⟨k + 1, rfl, KL.out, IK.out, HF3⟩
                      case measure =>
                        have := KL.out
                        simp only [intOf]
                        omega
                    · have g5 : ¬ (k : Int) < (out.length : Int) := by omega
                      clear hlk hk hik CK
                      go_wp2_with fail
                      go_roundw
                      case rel => exact ⟨i + 1, rfl, IL.out, BK0.out⟩
                      case measure =>
                        have := IL.out
                        simp only [intOf]
                        omega
                · have g4 : ¬ (i : Int) < (out.length : Int) := by omega
                  go_wp2_with fail
                  go_ret
                  exact ⟨rfl, below_then BL.out BL.out.size BI.out⟩
end Go.Proofs.YtdliagehkiihpaaGreatDoor.Giv

namespace Go.Proofs.YtdliagehkiihpaaGreatDoor.Giv
open Go.RowKit
set_option linter.unusedVariables false
/-- The errors that are variables, and the tables of utf8. -/
structure LaidU (w : World) : Prop where
  toLaid : Laid w
  tabs : Lib.Utf8Tabs 1 2 w
theorem LaidU.below {w w' : World} (h : LaidU w) (hb : Below w.heap.size w w') : LaidU w' := ⟨h.toLaid.below hb, Utf8Tabs_below h.tabs hb⟩
def utf8_ValidString.f (a0 : ByteArray) : Option Bool := if a0.size ≤ 40000 then some (Lib.validD a0.toList) else none
theorem utf8_ValidString.calls (a0 : ByteArray) (r : Bool) (w : World) (h : utf8_ValidString.f a0 = some r) (hL : LaidU w) :
    Calls Tryz.prog 56 #[.string a0] w fun e w' => e = .returned (.bool r) ∧ Below w.heap.size w w' := by
  unfold utf8_ValidString.f at h
  split at h
  · next hc =>
    obtain rfl := Option.some.inj h
    have := Tryz.utf8_ValidString a0 w (by omega) hL.tabs
    rwa [← toList_eq'] at this
  · exact absurd h (by simp)
end Go.Proofs.YtdliagehkiihpaaGreatDoor.Giv

namespace Go.Proofs.YtdliagehkiihpaaGreatDoor.Giv
open Go.RowKit Go.Proofs.YtdliagehkiihpaaGreatDoorW.PrintWords Go.Proofs.YtdliagehkiihpaaGreatDoorW.PrintLast Go.Proofs.YtdliagehkiihpaaGreatDoor.Pk Go.Proofs.YtdliagehkiihpaaGreatDoor.Ord
set_option linter.unusedVariables false
set_option linter.unusedSimpArgs false

theorem plc_at (s : ByteArray) (f : UInt8 → Bool) (p : Nat) (h : p < s.size) (hno : (s.toList.take p).any f = false) (hy : f (s[p]'h) = true) : placeOf f s.toList = p := by
  have e : s.toList = s.toList.take p ++ (s[p]'h :: s.toList.drop (p + 1)) := by rw [← drop_at s p h, List.take_append_drop]
  unfold placeOf
  have ha : s.toList.any f = true := by
    rw [e, List.any_append]
    simp [hy]
  rw [if_pos ha, e, List.findIdx_append]
  have hl : (s.toList.take p).findIdx f = (s.toList.take p).length := List.findIdx_eq_length.2 (by simpa using hno)
  rw [hl, if_neg (by omega), List.findIdx_cons, hy, List.length_take, len_toList]
  simp
  omega
theorem plc_no (s : ByteArray) (f : UInt8 → Bool) (hno : s.toList.any f = false) : placeOf f s.toList = -1 := by
  unfold placeOf
  rw [if_neg (by simp [hno])]

def plus (x : UInt8) : Bool := x == 43
set_option maxRecDepth 100000 in
set_option maxHeartbeats 4000000 in
theorem indexOf_calls (s : ByteArray) (hs : s.size ≤ 40000) (w : World) :
    Calls Tryz.prog 51 #[.string s, .int .u8 43] w fun e w' => e = .returned (.int .i64 (placeOf plus s.toList)) ∧ w' = w := by
  go_enter Tryz.func51, Tryz.ntmps51
  go_wp2_with fail
  go_loopw [5] (fun v5 wr => wr = w ∧ ∃ (k : Nat), v5 = .int .i64 k ∧ k ≤ s.size ∧ (s.toList.take k).any plus = false) (fun v5 wr => s.size - (intOf v5).toNat)
  case atStart => exact ⟨rfl, 0, rfl, Nat.zero_le _, by simp⟩
  case round =>
    obtain ⟨rfl, k, rfl, hk, hno⟩ := hrel
    by_cases hlt : k < s.size
    · have f4 : (k : Int) < (s.size : Int) := Int.ofNat_lt.2 hlt
      by_cases hc : s[k]'hlt = 43
      · have pl := Aside0.mk (plc_at s plus k hlt hno (by unfold plus; rw [hc]; rfl))
        clear hno
        go_wp2_with fail
        rw [pl.out]
        go_ret
        exact ⟨rfl, rfl⟩
      · have hx : plus (s[k]'hlt) = false := by unfold plus; exact beq_eq_false_iff_ne.2 hc
        have nx := Aside0.mk (show (s.toList.take (k + 1)).any plus = false by
          rw [take_next' s k hlt, List.any_append, hno]
          simp [hx])
        have g1 : (((s[k]'hlt).toNat : Int) == 43) = false := by
          refine beq_eq_false_iff_ne.2 (fun h => hc (UInt8.toNat_inj.1 ?_))
          have : (s[k]'hlt).toNat = 43 := by omega
          exact this
        clear hno hx hc
        go_wp2_with fail
        refine ⟨⟨trivial, k + 1, rfl, hlt, nx.out⟩, by simp only [intOf]; omega⟩
    · have e : k = s.size := by omega
      subst e
      have f4 : ¬ (s.size : Int) < (s.size : Int) := by omega
      rw [List.take_of_length_le (by rw [len_toList]; exact Nat.le_refl _)] at hno
      have pl := Aside0.mk (plc_no s plus hno)
      clear hno
      go_wp2_with fail
      rw [pl.out]
      go_ret
      exact ⟨rfl, rfl⟩
theorem sp_plc (c : UInt8) (l : List UInt8) (h : (l.any (fun x => x == c)) = true) : placeOf (fun x => x == c) l = ((Cut.upTo c l).length : Int) := by
  unfold placeOf
  rw [if_pos h]
  congr 1
  induction l with
  | nil => simp at h
  | cons x r ih =>
    unfold Cut.upTo
    rw [List.findIdx_cons]
    by_cases hx : x = c
    · rw [List.takeWhile_cons_of_neg (by simp [hx])]
      simp [hx]
    · rw [List.takeWhile_cons_of_pos (by simp [hx])]
      rw [List.any_cons] at h
      have hr : (r.any fun x => x == c) = true := by simpa [hx] using h
      have := ih hr
      unfold Cut.upTo at this
      have hb : (x == c) = false := by simpa using hx
      rw [hb, List.length_cons]
      simp [this]
/-- What stands behind the numbers, cut at points; nothing where nothing stands there. -/
def liked (l : List UInt8) : List ByteArray := if Cut.core l = [] then [] else (Cut.cutAt 46 (Cut.core l)).map bs
theorem like_end (s T : ByteArray) (hs : s.size ≤ 40000) (hT : T.toList = Cut.core s.toList) (hne : Cut.core s.toList ≠ []) (w : World) :
    Calls Tryz.prog 39 #[.string T, .func (.func 40) #[] #[]] w fun e w' => ∃ v0_ : Value, e = .returned v0_ ∧ Kd.R Kd.string 9 w' w.heap.size (fun _ => True) v0_ (liked s.toList) ∧ Below w.heap.size w w' := by
  have hz : T.size ≤ 40000 := by
    have := Cut.core_len s.toList
    rw [← hT, len_toList, len_toList] at this
    omega
  refine (cut_calls T hz w).mono ?_
  rintro e w' ⟨v, rfl, h, d⟩
  refine ⟨v, rfl, ?_, d⟩
  unfold liked
  rw [if_neg hne, ← hT]
  exact h
set_option maxRecDepth 100000 in
set_option maxHeartbeats 4000000 in
theorem like_calls (s : ByteArray) (hs : s.size ≤ 40000) (w : World) :
    Calls Tryz.prog 78 #[.string s] w fun e w' => ∃ v0_ : Value, e = .returned v0_ ∧ Kd.R Kd.string 9 w' w.heap.size (fun _ => True) v0_ (liked s.toList) ∧ Below w.heap.size w w' := by
  have ce : ∀ T : ByteArray, T.toList = Cut.core s.toList → T.toList.isEmpty = false → ∀ w : World, Calls Tryz.prog 39 #[.string T, .func (.func 40) #[] #[]] w fun e w' => ∃ v0_ : Value, e = .returned v0_ ∧ Kd.R Kd.string 9 w' w.heap.size (fun _ => True) v0_ (liked s.toList) ∧ Below w.heap.size w w' := fun T h n w => like_end s T hs h (by
    intro c
    rw [← h] at c
    rw [c] at n
    exact absurd n (by decide)) w
  by_cases hp : s.toList.any plus = true
  · obtain ⟨m, em⟩ : ∃ m, m = (Cut.upTo 43 s.toList).length := ⟨_, rfl⟩
    have cy := (Cut.cutAt_yes 43 s.toList hp).2
    rw [← em] at cy
    have hm : m ≤ s.size := by have := cy.1; rw [len_toList] at this; omega
    have io : ∀ w', Calls Tryz.prog 51 #[.string s, .int .u8 43] w' fun e w'' => e = .returned (.int .i64 (m : Int)) ∧ w' = w'' := fun w' => by
      have := sp_plc 43 s.toList hp
      rw [← em] at this
      rw [← this]
      exact (indexOf_calls s hs w').mono (by rintro e w2 ⟨rfl, rfl⟩; exact ⟨rfl, rfl⟩)
    have up : (s.extract 0 m).toList = Cut.upTo 43 s.toList := by rw [ext_head]; exact cy.2
    have core : Cut.core s.toList = Cut.trim 45 (s.extract 0 m).toList := by unfold Cut.core; rw [up]
    have hz : (s.extract 0 m).size = m := by rw [ByteArray.size_extract]; omega
    have p1 : (0 : Int) ≤ (m : Int) := Int.natCast_nonneg m
    have p2 : (m : Int) ≤ (s.size : Int) := Int.ofNat_le.2 hm
    by_cases he : (s.extract 0 m).toList = []
    · have e1 : (s.extract 0 m).toList.isEmpty = true := by rw [he]; rfl
      have lk : liked s.toList = [] := by unfold liked; rw [core, he]; rfl
      clear hp up cy em hz core he ce
      rw [lk]
      go_enter Tryz.func78, Tryz.ntmps78
      go_wp2_with (first | (go_at_call 51; (with_reducible refine (io _).mono ?_); rintro e w1 ⟨rfl, rfl⟩))
      go_ret
      exact ⟨_, rfl, Kd.R_nil _ _ _ _ _, Below.refl _ _⟩
    · have h0 : 0 < (s.extract 0 m).size := by rw [← len_toList]; exact List.length_pos_iff.2 he
      have e1 : (s.extract 0 m).toList.isEmpty = false := by cases h : (s.extract 0 m).toList with | nil => exact absurd h he | cons => rfl
      have f1 : (0 : Int) < (m : Int) := by rw [hz] at h0; exact Int.ofNat_lt.2 h0
      have f2 : (1 : Int) ≤ (m : Int) := by omega
      have hcons : (s.extract 0 m).toList = (s.extract 0 m)[0]'h0 :: (s.extract 0 m).toList.drop 1 := by
        have := drop_at (s.extract 0 m) 0 h0
        rwa [List.drop_zero] at this
      by_cases hd : (s.extract 0 m)[0]'h0 = 45
      · have et : ((s.extract 0 m).extract 1 m).toList = Cut.core s.toList := by
          rw [show (s.extract 0 m).extract 1 m = (s.extract 0 m).extract 1 (s.extract 0 m).size by rw [hz], ext_all, core]
          conv => rhs; rw [hcons]
          unfold Cut.trim
          simp only
          rw [if_pos hd]
        by_cases hn : ((s.extract 0 m).extract 1 m).toList = []
        · have e2 : ((s.extract 0 m).extract 1 m).toList.isEmpty = true := by rw [hn]; rfl
          have lk : liked s.toList = [] := by unfold liked; rw [← et, hn]; rfl
          clear hp up cy em hz core he ce hn et hcons
          rw [lk]
          go_enter Tryz.func78, Tryz.ntmps78
          go_wp2_with (first | (go_at_call 51; (with_reducible refine (io _).mono ?_); rintro e w1 ⟨rfl, rfl⟩))
          go_ret
          exact ⟨_, rfl, Kd.R_nil _ _ _ _ _, Below.refl _ _⟩
        · have e2 : ((s.extract 0 m).extract 1 m).toList.isEmpty = false := by cases h : ((s.extract 0 m).extract 1 m).toList with | nil => exact absurd h hn | cons => rfl
          have cx := ce _ et e2
          clear hp up cy em hz core he ce hn et hcons
          go_enter Tryz.func78, Tryz.ntmps78
          go_wp2_with (first | (go_at_call 51; (with_reducible refine (io _).mono ?_); rintro e w1 ⟨rfl, rfl⟩) | (go_at_call 39; (with_reducible refine (cx _).mono ?_); rintro e w1 ⟨v, rfl, hr, hb⟩; have HR := Aside0.mk hr; have HB := Aside0.mk hb; clear hr hb))
          go_ret
          exact ⟨_, rfl, HR.out, HB.out⟩
      · have g1 : ((((s.extract 0 m)[0]'h0).toNat : Int) == 45) = false := by
          refine beq_eq_false_iff_ne.2 (fun h => hd (UInt8.toNat_inj.1 ?_))
          have : ((s.extract 0 m)[0]'h0).toNat = 45 := by omega
          exact this
        have c2 : (s.extract 0 m).toList = Cut.core s.toList := by
          rw [core]
          conv => rhs; rw [hcons]
          unfold Cut.trim
          simp only
          rw [if_neg hd, ← hcons]
        have cx := ce (s.extract 0 m) c2 e1
        clear hp up cy em hz core he hd c2 ce hcons
        go_enter Tryz.func78, Tryz.ntmps78
        go_wp2_with (first | (go_at_call 51; (with_reducible refine (io _).mono ?_); rintro e w1 ⟨rfl, rfl⟩) | (go_at_call 39; (with_reducible refine (cx _).mono ?_); rintro e w1 ⟨v, rfl, hr, hb⟩; have HR := Aside0.mk hr; have HB := Aside0.mk hb; clear hr hb))
        go_ret
        exact ⟨_, rfl, HR.out, HB.out⟩
  · have hp' : s.toList.any plus = false := Bool.eq_false_iff.2 hp
    have io : ∀ w', Calls Tryz.prog 51 #[.string s, .int .u8 43] w' fun e w'' => e = .returned (.int .i64 (-1)) ∧ w' = w'' := fun w' => by
      rw [← plc_no s plus hp']
      exact (indexOf_calls s hs w').mono (by rintro e w2 ⟨rfl, rfl⟩; exact ⟨rfl, rfl⟩)
    have up := (Cut.cutAt_no 43 s.toList hp').2
    have core : Cut.core s.toList = Cut.trim 45 s.toList := by unfold Cut.core; rw [up]
    by_cases he : s.toList = []
    · have e1 : s.toList.isEmpty = true := by rw [he]; rfl
      have lk : liked s.toList = [] := by unfold liked; rw [core, he]; rfl
      clear hp hp' up core he ce
      rw [lk]
      go_enter Tryz.func78, Tryz.ntmps78
      go_wp2_with (first | (go_at_call 51; (with_reducible refine (io _).mono ?_); rintro e w1 ⟨rfl, rfl⟩))
      go_ret
      exact ⟨_, rfl, Kd.R_nil _ _ _ _ _, Below.refl _ _⟩
    · have h0 : 0 < s.size := by rw [← len_toList]; exact List.length_pos_iff.2 he
      have e1 : s.toList.isEmpty = false := by cases h : s.toList with | nil => exact absurd h he | cons => rfl
      have f1 : (0 : Int) < (s.size : Int) := Int.ofNat_lt.2 h0
      have f2 : (1 : Int) ≤ (s.size : Int) := by omega
      have hcons : s.toList = s[0]'h0 :: s.toList.drop 1 := by
        have := drop_at s 0 h0
        rwa [List.drop_zero] at this
      by_cases hd : s[0]'h0 = 45
      · have et : (s.extract 1 s.size).toList = Cut.core s.toList := by
          rw [ext_all, core]
          conv => rhs; rw [hcons]
          unfold Cut.trim
          simp only
          rw [if_pos hd]
        by_cases hn : (s.extract 1 s.size).toList = []
        · have e2 : (s.extract 1 s.size).toList.isEmpty = true := by rw [hn]; rfl
          have lk : liked s.toList = [] := by unfold liked; rw [← et, hn]; rfl
          clear hp hp' up core he ce hn et hcons
          rw [lk]
          go_enter Tryz.func78, Tryz.ntmps78
          go_wp2_with (first | (go_at_call 51; (with_reducible refine (io _).mono ?_); rintro e w1 ⟨rfl, rfl⟩))
          go_ret
          exact ⟨_, rfl, Kd.R_nil _ _ _ _ _, Below.refl _ _⟩
        · have e2 : (s.extract 1 s.size).toList.isEmpty = false := by cases h : (s.extract 1 s.size).toList with | nil => exact absurd h hn | cons => rfl
          have cx := ce _ et e2
          clear hp hp' up core he ce hn et hcons
          go_enter Tryz.func78, Tryz.ntmps78
          go_wp2_with (first | (go_at_call 51; (with_reducible refine (io _).mono ?_); rintro e w1 ⟨rfl, rfl⟩) | (go_at_call 39; (with_reducible refine (cx _).mono ?_); rintro e w1 ⟨v, rfl, hr, hb⟩; have HR := Aside0.mk hr; have HB := Aside0.mk hb; clear hr hb))
          go_ret
          exact ⟨_, rfl, HR.out, HB.out⟩
      · have g1 : (((s[0]'h0).toNat : Int) == 45) = false := by
          refine beq_eq_false_iff_ne.2 (fun h => hd (UInt8.toNat_inj.1 ?_))
          have : (s[0]'h0).toNat = 45 := by omega
          exact this
        have c2 : s.toList = Cut.core s.toList := by
          rw [core]
          conv => rhs; rw [hcons]
          unfold Cut.trim
          simp only
          rw [if_neg hd, ← hcons]
        have cx := ce s c2 e1
        clear hp hp' up core he hd c2 ce hcons
        go_enter Tryz.func78, Tryz.ntmps78
        go_wp2_with (first | (go_at_call 51; (with_reducible refine (io _).mono ?_); rintro e w1 ⟨rfl, rfl⟩) | (go_at_call 39; (with_reducible refine (cx _).mono ?_); rintro e w1 ⟨v, rfl, hr, hb⟩; have HR := Aside0.mk hr; have HB := Aside0.mk hb; clear hr hb))
        go_ret
        exact ⟨_, rfl, HR.out, HB.out⟩
def spec_likeIdentifiers.f (a0 : ByteArray) : Option (List ByteArray) := if a0.size ≤ 40000 then some (liked a0.toList) else none
theorem spec_likeIdentifiers.calls (a0 : ByteArray) (r : List ByteArray) (w : World) (h : spec_likeIdentifiers.f a0 = some r) :
    Calls Tryz.prog 78 #[.string a0] w fun e w' => ∃ v0_ : Value, e = .returned (v0_) ∧ Kd.R Kd.string 9 w' w.heap.size (fun _ => True) v0_ r ∧ Below w.heap.size w w' := by
  unfold spec_likeIdentifiers.f at h
  split at h
  · next hc =>
    obtain rfl := Option.some.inj h
    exact like_calls a0 hc w
  · exact absurd h (by simp)
end Go.Proofs.YtdliagehkiihpaaGreatDoor.Giv
