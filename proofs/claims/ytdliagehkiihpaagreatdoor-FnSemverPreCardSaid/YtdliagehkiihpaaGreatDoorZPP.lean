/- 'short': of lists of texts.
   What the laws ask of texts of numbers and of identifiers with points between. -/
import Derived.Test.YtdliagehkiihpaaGreatDoorZD
import Derived.Test.YtdliagehkiihpaaGreatDoorQPx
import Derived.Test.YtdliagehkiihpaaGreatDoorZY
namespace Go.Proofs.YtdliagehkiihpaaGreatDoor.QP
open Go.RowKit Go.Proofs.YtdliagehkiihpaaGreatDoorW.PrintWords Go.Proofs.YtdliagehkiihpaaGreatDoorW.PrintLast Go.Proofs.YtdliagehkiihpaaGreatDoor.Pk Go.Proofs.YtdliagehkiihpaaGreatDoor.Giv
set_option linter.unusedVariables false

/-- Are all texts short, and not many of them? -/
def shortB (l : List ByteArray) : Bool := l.all (fun s => decide (s.size ≤ 1500)) && decide (l.length ≤ 150)
theorem short_loop (l : List ByteArray) (hl : l.length < 4611686018427387904) (d : Nat) : ∀ i : Nat, i + d = l.length → Ev (fun k => laws_short.l0 k l l (l.length : Int) (i : Int)) ((l.drop i).all (fun s => decide (s.size ≤ 1500)) && decide (l.length ≤ 150)) := by
  induction d with
  | zero =>
    intro i hi
    refine Ev.step (fun k => by rw [laws_short.l0]) ?_
    refine ev_neg (by omega) ?_
    rw [List.drop_of_length_le (by omega)]
    have e : decide ((l.length : Int) ≤ 150) = ([].all (fun s : ByteArray => decide (s.size ≤ 1500)) && decide (l.length ≤ 150)) := by
      rw [List.all_nil, Bool.true_and, decide_eq_decide]
      omega
    rw [← e]
    exact Ev.now _
  | succ d ih =>
    intro i hi
    have hlt : i < l.length := by omega
    have r := rdOf_nat ByteArray.empty l i hlt
    have w := wr i (by omega)
    refine Ev.step (fun k => by rw [laws_short.l0, r, w]) ?_
    refine ev_pos (by omega) (ev_pos (by omega) (ev_pos (by omega) ?_))
    rw [List.drop_eq_getElem_cons hlt, List.all_cons]
    by_cases h : ((l[i].size : Int)) > 1500
    · refine ev_pos h ?_
      have e : decide (l[i].size ≤ 1500) = false := by rw [decide_eq_false_iff_not]; omega
      rw [e]
      exact Ev.now _
    · refine ev_neg h ?_
      have e : decide (l[i].size ≤ 1500) = true := by rw [decide_eq_true_eq]; omega
      rw [e, Bool.true_and]
      exact ih (i + 1) (by omega)
theorem short_ev (l : List ByteArray) (hl : l.length < 4611686018427387904) : Ev (fun k => laws_short.f k l) (shortB l) := short_loop l hl l.length 0 (by omega)
theorem short_sizes {l : List ByteArray} (h : shortB l = true) : ∀ s ∈ l, s.size ≤ 1500 := by
  unfold shortB at h
  rw [Bool.and_eq_true, List.all_eq_true] at h
  intro s hs
  simpa using h.1 s hs
theorem short_len {l : List ByteArray} (h : shortB l = true) : l.length ≤ 150 := by
  unfold shortB at h
  rw [Bool.and_eq_true] at h
  simpa using h.2
end Go.Proofs.YtdliagehkiihpaaGreatDoor.QP

namespace Go.Proofs.YtdliagehkiihpaaGreatDoor.QP
open Go.RowKit Go.Proofs.YtdliagehkiihpaaGreatDoorW.PrintWords Go.Proofs.YtdliagehkiihpaaGreatDoorW.PrintLast Go.Proofs.YtdliagehkiihpaaGreatDoor.Pk Go.Proofs.YtdliagehkiihpaaGreatDoor.Giv Go.Proofs.YtdliagehkiihpaaGreatDoor.Ord
set_option linter.unusedVariables false
theorem is46 {c : UInt8} (h : c.toNat = 46) : c = 46 := UInt8.toNat_inj.1 h
theorem no46 {c : UInt8} (h : ¬ c.toNat = 46) : c ≠ 46 := fun e => h (by rw [e]; rfl)
theorem numbered_loop (s : ByteArray) (m : Nat) (hs : s.size < 1000000) (d : Nat) : ∀ (i n : Nat) (op : Bool), i + d = s.size → n ≤ i + 1 → Ev (fun k => laws_numbered.l0 k s (m : Int) (n : Int) op (i : Int)) (Slk.nmb m (s.toList.drop i) n op) := by
  induction d with
  | zero =>
    intro i n op hi hn
    refine Ev.step (fun k => by rw [laws_numbered.l0]) ?_
    refine ev_neg (by omega) ?_
    rw [List.drop_of_length_le (by rw [len_toList]; omega), Slk.nmb]
    cases op with
    | true => exact ev_pos rfl (Ev.now _)
    | false =>
      refine ev_neg (by simp) ?_
      rw [show (!false && decide (n ≤ m)) = decide ((n : Int) ≤ (m : Int)) by rw [Bool.not_false, Bool.true_and, decide_eq_decide]; omega]
      exact Ev.now _
  | succ d ih =>
    intro i n op hi hn
    have hlt : i < s.size := by omega
    have w := wr i (by omega)
    have wn := wr n (by omega)
    rw [drop_at s i hlt, Slk.nmb]
    have tail : ∀ b : Bool, b = Rpm.dig (s[i]'hlt) → Ev (fun k => laws_numbered.j1 k s (m : Int) (n : Int) op (i : Int) b) (if Rpm.dig (s[i]'hlt) = true then Slk.nmb m (s.toList.drop (i + 1)) n false else if s[i]'hlt = 46 then (if op = true then false else Slk.nmb m (s.toList.drop (i + 1)) (n + 1) true) else false) := by
      intro b hb
      refine Ev.step (fun k => by rw [laws_numbered.j1, bt_nat s i hlt, w, wn]) ?_
      cases hd : Rpm.dig (s[i]'hlt) with
      | true =>
        rw [hd] at hb
        rw [if_pos rfl]
        exact ev_pos hb (ih (i + 1) n false (by omega) (by omega))
      | false =>
        rw [hd] at hb
        rw [if_neg (by simp)]
        refine ev_neg (by rw [hb]; simp) (ev_pos (by omega) (ev_pos (by omega) ?_))
        by_cases h46 : (s[i]'hlt).toNat = 46
        · rw [if_pos (is46 h46)]
          refine ev_pos (by omega) ?_
          cases op with
          | true => exact ev_pos rfl (Ev.now _)
          | false => exact ev_neg (by simp) (ih (i + 1) (n + 1) true (by omega) (by omega))
        · rw [if_neg (no46 h46)]
          exact ev_neg (by omega) (Ev.now _)
    refine Ev.step (fun k => by rw [laws_numbered.l0, bt_nat s i hlt]) ?_
    refine ev_pos (by omega) (ev_pos (by omega) ?_)
    by_cases h : ((s[i]'hlt).toNat : Int) ≥ 48
    · refine ev_pos h (tail _ ?_)
      unfold Rpm.dig
      rw [decide_eq_decide]
      omega
    · refine ev_neg h (tail _ ?_)
      unfold Rpm.dig
      rw [eq_comm, decide_eq_false_iff_not]
      omega
theorem numbered_ev (s : ByteArray) (m : Nat) (hs : s.size < 1000000) : Ev (fun k => laws_numbered.f k s (m : Int)) (Slk.nmb m s.toList 1 true) := by
  unfold laws_numbered.f
  have := numbered_loop s m hs s.size 0 1 true (by omega) (by omega)
  rwa [List.drop_zero] at this
theorem dotted_loop (s : ByteArray) (hs : s.size < 1000000) (d : Nat) : ∀ (i : Nat) (op : Bool), i + d = s.size → Ev (fun k => laws_dotted.l0 k s op (i : Int)) (Slk.dtd (s.toList.drop i) op) := by
  induction d with
  | zero =>
    intro i op hi
    refine Ev.step (fun k => by rw [laws_dotted.l0]) ?_
    refine ev_neg (by omega) ?_
    rw [List.drop_of_length_le (by rw [len_toList]; omega), Slk.dtd]
    exact Ev.now _
  | succ d ih =>
    intro i op hi
    have hlt : i < s.size := by omega
    have w := wr i (by omega)
    rw [drop_at s i hlt, Slk.dtd]
    have tail : ∀ b : Bool, b = Slk.aln (s[i]'hlt) → Ev (fun k => laws_dotted.j1 k s op (i : Int) ((s[i]'hlt).toNat : Int) b) (if Slk.aln (s[i]'hlt) = true then Slk.dtd (s.toList.drop (i + 1)) false else if s[i]'hlt = 46 then (if op = true then false else Slk.dtd (s.toList.drop (i + 1)) true) else false) := by
      intro b hb
      refine Ev.step (fun k => by rw [laws_dotted.j1, w]) ?_
      cases hd : Slk.aln (s[i]'hlt) with
      | true =>
        rw [hd] at hb
        rw [if_pos rfl]
        exact ev_pos hb (ih (i + 1) false (by omega))
      | false =>
        rw [hd] at hb
        rw [if_neg (by simp)]
        refine ev_neg (by rw [hb]; simp) ?_
        by_cases h46 : (s[i]'hlt).toNat = 46
        · rw [if_pos (is46 h46)]
          refine ev_pos (by omega) ?_
          cases op with
          | true => exact ev_pos rfl (Ev.now _)
          | false => exact ev_neg (by simp) (ih (i + 1) true (by omega))
        · rw [if_neg (no46 h46)]
          exact ev_neg (by omega) (Ev.now _)
    refine Ev.step (fun k => by rw [laws_dotted.l0, bt_nat s i hlt]) ?_
    refine ev_pos (by omega) (ev_pos (by omega) ?_)
    have hal : ∀ P : Prop, [Decidable P] → (P ↔ (48 ≤ (s[i]'hlt).toNat ∧ (s[i]'hlt).toNat ≤ 57 ∨ 97 ≤ (s[i]'hlt).toNat ∧ (s[i]'hlt).toNat ≤ 122 ∨ 65 ≤ (s[i]'hlt).toNat ∧ (s[i]'hlt).toNat ≤ 90)) → decide P = Slk.aln (s[i]'hlt) := fun P _ h => by
      unfold Slk.aln
      rw [decide_eq_decide]
      exact h
    have ht : (48 ≤ (s[i]'hlt).toNat ∧ (s[i]'hlt).toNat ≤ 57 ∨ 97 ≤ (s[i]'hlt).toNat ∧ (s[i]'hlt).toNat ≤ 122 ∨ 65 ≤ (s[i]'hlt).toNat ∧ (s[i]'hlt).toNat ≤ 90) → true = Slk.aln (s[i]'hlt) := fun h => (decide_eq_true h).symm
    have hf : ¬ (48 ≤ (s[i]'hlt).toNat ∧ (s[i]'hlt).toNat ≤ 57 ∨ 97 ≤ (s[i]'hlt).toNat ∧ (s[i]'hlt).toNat ≤ 122 ∨ 65 ≤ (s[i]'hlt).toNat ∧ (s[i]'hlt).toNat ≤ 90) → false = Slk.aln (s[i]'hlt) := fun h => (decide_eq_false h).symm
    have low : ¬ (((s[i]'hlt).toNat : Int) ≥ 48 ∧ ((s[i]'hlt).toNat : Int) ≤ 57) → ¬ (((s[i]'hlt).toNat : Int) ≥ 97 ∧ ((s[i]'hlt).toNat : Int) ≤ 122) → Ev (fun k => if ((s[i]'hlt).toNat : Int) ≥ 65 then laws_dotted.j1 k s op (i : Int) ((s[i]'hlt).toNat : Int) (decide (((s[i]'hlt).toNat : Int) ≤ 90)) else laws_dotted.j1 k s op (i : Int) ((s[i]'hlt).toNat : Int) false) (if Slk.aln (s[i]'hlt) = true then Slk.dtd (s.toList.drop (i + 1)) false else if s[i]'hlt = 46 then (if op = true then false else Slk.dtd (s.toList.drop (i + 1)) true) else false) := fun h1 h2 => by
      by_cases h3 : ((s[i]'hlt).toNat : Int) ≥ 65
      · exact ev_pos h3 (tail _ (hal _ (by omega)))
      · exact ev_neg h3 (tail _ (hf (by omega)))
    have mid : ¬ (((s[i]'hlt).toNat : Int) ≥ 48 ∧ ((s[i]'hlt).toNat : Int) ≤ 57) → Ev (fun k => if ((s[i]'hlt).toNat : Int) ≥ 97 then (if ((s[i]'hlt).toNat : Int) ≤ 122 then laws_dotted.j1 k s op (i : Int) ((s[i]'hlt).toNat : Int) true else (if ((s[i]'hlt).toNat : Int) ≥ 65 then laws_dotted.j1 k s op (i : Int) ((s[i]'hlt).toNat : Int) (decide (((s[i]'hlt).toNat : Int) ≤ 90)) else laws_dotted.j1 k s op (i : Int) ((s[i]'hlt).toNat : Int) false)) else (if ((s[i]'hlt).toNat : Int) ≥ 65 then laws_dotted.j1 k s op (i : Int) ((s[i]'hlt).toNat : Int) (decide (((s[i]'hlt).toNat : Int) ≤ 90)) else laws_dotted.j1 k s op (i : Int) ((s[i]'hlt).toNat : Int) false)) (if Slk.aln (s[i]'hlt) = true then Slk.dtd (s.toList.drop (i + 1)) false else if s[i]'hlt = 46 then (if op = true then false else Slk.dtd (s.toList.drop (i + 1)) true) else false) := fun h1 => by
      by_cases h3 : ((s[i]'hlt).toNat : Int) ≥ 97
      · refine ev_pos h3 ?_
        by_cases h4 : ((s[i]'hlt).toNat : Int) ≤ 122
        · exact ev_pos h4 (tail _ (ht (by omega)))
        · exact ev_neg h4 (low h1 (by omega))
      · exact ev_neg h3 (low h1 (by omega))
    by_cases h : ((s[i]'hlt).toNat : Int) ≥ 48
    · refine ev_pos h ?_
      by_cases h2 : ((s[i]'hlt).toNat : Int) ≤ 57
      · exact ev_pos h2 (tail _ (ht (by omega)))
      · exact ev_neg h2 (mid (by omega))
    · exact ev_neg h (mid (by omega))
theorem dotted_ev (s : ByteArray) (hs : s.size < 1000000) : Ev (fun k => laws_dotted.f k s) (Slk.dtd s.toList true) := by
  unfold laws_dotted.f
  have := dotted_loop s hs s.size 0 true (by omega)
  rwa [List.drop_zero] at this
theorem points_loop (s : ByteArray) (hs : s.size < 1000000) (d : Nat) : ∀ (i fr : Nat) (acc : List ByteArray), i + d = s.size → fr ≤ i → acc.length ≤ fr → (((s.toList.drop fr).take (i - fr)).any (fun x => x == 46)) = false → Ev (fun k => laws_points.l0 k s acc (fr : Int) (i : Int)) (acc ++ (Cut.cutAt 46 (s.toList.drop fr)).map bs) := by
  have ex : ∀ (fr i : Nat), s.extract ((fr : Int)).toNat ((i : Int)).toNat = bs ((s.toList.drop fr).take (i - fr)) := fun fr i => bs_eq (by rw [ext_toList]; rfl)
  induction d with
  | zero =>
    intro i fr acc hi hf hal hno
    have w := wr i (by omega)
    have e : (s.toList.drop fr).take (i - fr) = s.toList.drop fr := List.take_of_length_le (by rw [List.length_drop, len_toList]; omega)
    rw [e] at hno
    refine Ev.step (fun k => by rw [laws_points.l0, ex, w]) ?_
    refine ev_pos (by omega) (ev_pos (by omega) (ev_pos (by omega) (ev_pos (by omega) (ev_pos (by omega) ?_))))
    refine Ev.step (fun k => by rw [laws_points.l0]) ?_
    refine ev_neg (by omega) ?_
    rw [(Cut.cutAt_no 46 _ hno).1, e]
    exact Ev.now _
  | succ d ih =>
    intro i fr acc hi hf hal hno
    have hlt : i < s.size := by omega
    have w := wr i (by omega)
    refine Ev.step (fun k => by rw [laws_points.l0, ex, w, bt_nat s i hlt]) ?_
    refine ev_pos (by omega) (ev_neg (by omega) (ev_pos (by omega) (ev_pos (by omega) ?_)))
    have ed : s.toList.drop fr = (s.toList.drop fr).take (i - fr) ++ ((s[i]'hlt) :: s.toList.drop (i + 1)) := by
      conv => lhs; rw [← List.take_append_drop (i - fr) (s.toList.drop fr)]
      rw [List.drop_drop, show fr + (i - fr) = i by omega, drop_at s i hlt]
    by_cases h46 : (s[i]'hlt).toNat = 46
    · have h46' : s[i]'hlt = 46 := is46 h46
      refine ev_pos (by omega) (ev_pos (by omega) (ev_pos (by omega) (ev_pos (by omega) ?_)))
      have := ih (i + 1) (i + 1) (acc ++ [bs ((s.toList.drop fr).take (i - fr))]) (by omega) (Nat.le_refl _) (by rw [List.length_append, List.length_singleton]; omega) (by rw [Nat.sub_self]; rfl)
      rw [h46'] at ed
      have ec : Cut.cutAt 46 (s.toList.drop fr) = (s.toList.drop fr).take (i - fr) :: Cut.cutAt 46 (s.toList.drop (i + 1)) := by
        conv => lhs; rw [ed]
        exact Slk.cutAt_seg 46 _ _ hno
      rw [ec, List.map_cons]
      rw [List.append_assoc] at this
      exact this
    · have h46' : s[i]'hlt ≠ 46 := no46 h46
      refine ev_neg (by omega) (ih (i + 1) fr acc (by omega) (by omega) hal ?_)
      have et : (s.toList.drop fr).take (i + 1 - fr) = (s.toList.drop fr).take (i - fr) ++ [s[i]'hlt] := by
        rw [show i + 1 - fr = (i - fr) + 1 by omega]
        conv => lhs; rw [ed]
        have hl : ((s.toList.drop fr).take (i - fr)).length = i - fr := by rw [List.length_take, List.length_drop, len_toList]; omega
        rw [List.take_append, hl, show i - fr + 1 - (i - fr) = 1 by omega, List.take_of_length_le (by omega)]
        rfl
      rw [et, List.any_append, hno, Bool.false_or, List.any_cons, List.any_nil, Bool.or_false]
      exact beq_eq_false_iff_ne.2 h46'
theorem points_ev (s : ByteArray) (hs : s.size < 1000000) : Ev (fun k => laws_points.f k s) ((Cut.cutAt 46 s.toList).map bs) := by
  unfold laws_points.f
  have := points_loop s hs s.size 0 0 [] (by omega) (Nat.le_refl _) (Nat.le_refl _) rfl
  rwa [List.drop_zero, List.nil_append] at this
theorem tl_bs (l : List (List UInt8)) : tl (l.map bs) = l := by
  unfold tl
  rw [List.map_map]
  conv => rhs; rw [← List.map_id l]
  exact List.map_congr_left (fun x _ => bs_toList x)
theorem fit_cut (s : ByteArray) (hs : s.size ≤ 40000) : fit ((Cut.cutAt 46 s.toList).map bs) = true := by
  obtain ⟨h1, h2⟩ := Cut.cutAt_sizes 46 s.toList
  rw [len_toList] at h1 h2
  unfold fit
  rw [Bool.and_eq_true, List.length_map]
  refine ⟨decide_eq_true (by omega), ?_⟩
  rw [List.all_eq_true]
  intro x hx
  obtain ⟨y, hy, rfl⟩ := List.mem_map.1 hx
  rw [bs_size]
  exact decide_eq_true (by have := h2 y hy; omega)
end Go.Proofs.YtdliagehkiihpaaGreatDoor.QP
