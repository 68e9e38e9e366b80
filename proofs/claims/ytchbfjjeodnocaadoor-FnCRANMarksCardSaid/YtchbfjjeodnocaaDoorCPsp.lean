/- What the program answers of texts cut at a byte. -/
import Derived.Test.YtchbfjjeodnocaaDoorZD
import Derived.Test.YtchbfjjeodnocaaDoorZK
import Derived.Test.YtchbfjjeodnocaaDoorQCx
namespace Go.Proofs.YtchbfjjeodnocaaDoor.QC
open Go.RowKit Go.Proofs.YtchbfjjeodnocaaDoorW.PrintWords Go.Proofs.YtchbfjjeodnocaaDoorW.PrintLast Go.Proofs.YtchbfjjeodnocaaDoor.Pk Go.Proofs.YtchbfjjeodnocaaDoor.Giv Go.Proofs.YtchbfjjeodnocaaDoor.Ord
set_option linter.unusedVariables false

theorem sp_one (c : UInt8) : (⟨#[c]⟩ : ByteArray) = bs [c] := rfl
theorem sp_idx_loop (l : List UInt8) (c : UInt8) (hs : l.length < 4611686018427387904) (d : Nat) : ∀ i : Nat, i + d = l.length → (l.take i).any (fun x => x == c) = false → Ev (fun k => semantic_zzIndex.l0 k (bs l) (bs [c]) (i : Int)) (placeOf (fun x => x == c) l) := by
  induction d with
  | zero =>
    intro i hi hno
    have w := wr i (by omega)
    refine Ev.step (fun k => by rw [semantic_zzIndex.l0, bs_size, bs_size]) ?_
    have w' : wrap64 ((i : Int) + (([c] : List UInt8).length : Int)) = ((i + 1 : Nat) : Int) := w
    rw [w']
    refine ev_neg (by omega) ?_
    rw [List.take_of_length_le (by omega)] at hno
    have e : placeOf (fun x => x == c) l = -1 := by
      unfold placeOf
      rw [hno]
      rfl
    rw [e]
    exact Ev.now _
  | succ d ih =>
    intro i hi hno
    have hlt : i < l.length := by omega
    have w := wr i (by omega)
    have w' : wrap64 ((i : Int) + (([c] : List UInt8).length : Int)) = ((i + 1 : Nat) : Int) := w
    refine Ev.step (fun k => by rw [semantic_zzIndex.l0, bs_size, bs_size]) ?_
    rw [w', w]
    refine ev_pos (by omega) (ev_pos (by omega) (ev_pos (by omega) ?_))
    have hx : ((bs l).extract ((i : Int)).toNat (((i + 1 : Nat) : Int)).toNat).toList = [l[i]'hlt] := by
      rw [Int.toNat_natCast, Int.toNat_natCast, bs_ext, bs_toList, List.drop_eq_getElem_cons hlt, show i + 1 - i = 1 by omega]
      rfl
    rw [hx, bs_toList]
    by_cases h : (l[i]'hlt) = c
    · refine ev_pos (by rw [h]) ?_
      rw [placeOf_step _ l i hlt hno (by rw [h]; simp)]
      exact Ev.now _
    · refine ev_neg (fun e => h (List.cons.inj e).1) ?_
      refine ih (i + 1) (by omega) ?_
      rw [List.take_succ_eq_append_getElem hlt, List.any_append, hno]
      simpa using h
theorem sp_idx (l : List UInt8) (c : UInt8) (hs : l.length < 4611686018427387904) : Ev (fun k => semantic_zzIndex.f k (bs l) (bs [c])) (placeOf (fun x => x == c) l) := sp_idx_loop l c hs l.length 0 (by omega) (by simp)
theorem sp_place (c : UInt8) (l : List UInt8) (h : (l.any (fun x => x == c)) = true) : placeOf (fun x => x == c) l = ((Cut.upTo c l).length : Int) := by
  unfold placeOf
  rw [if_pos h]
  congr 1
  induction l with
  | nil => simp at h
  | cons x r ih =>
    unfold Cut.upTo
    rw [List.findIdx_cons]
    by_cases hx : x = c
    · rw [List.takeWhile_cons_of_neg (by simp [hx])]
      simp [hx]
    · rw [List.takeWhile_cons_of_pos (by simp [hx])]
      rw [List.any_cons] at h
      have hr : (r.any fun x => x == c) = true := by simpa [hx] using h
      have := ih hr
      unfold Cut.upTo at this
      have hb : (x == c) = false := by simpa using hx
      rw [hb, List.length_cons]
      simp [this]
theorem sp_loop (c : UInt8) (n : Nat) : ∀ (l : List UInt8) (acc : List ByteArray), l.length ≤ n → acc.length + l.length < 8796093022207 → Ev (fun k => semantic_zzSplit.l1 k (bs l) (bs [c]) acc) (acc ++ (Cut.cutAt c l).map bs) := by
  induction n with
  | zero =>
    intro l acc hl ha
    have e : l = [] := List.length_eq_zero_iff.1 (by omega)
    subst e
    refine Ev.step (fun k => by rw [semantic_zzSplit.l1]) ?_
    refine (sp_idx [] c (by simp)).bind ?_
    refine ev_pos (by simp [placeOf]) (ev_pos (by omega) ?_)
    exact Ev.now _
  | succ n ih =>
    intro l acc hl ha
    refine Ev.step (fun k => by rw [semantic_zzSplit.l1]) ?_
    refine (sp_idx l c (by omega)).bind ?_
    by_cases h : (l.any (fun x => x == c)) = true
    · obtain ⟨e1, e2, e3⟩ := Cut.cutAt_yes c l h
      rw [sp_place c l h, e1]
      generalize (Cut.upTo c l).length = j at *
      have w : wrap64 ((j : Int) + ((bs [c]).size : Int)) = ((j + 1 : Nat) : Int) := by
        rw [bs_size]
        exact wr j (by omega)
      refine ev_neg (by omega) (ev_pos (by omega) (ev_pos (by rw [bs_size]; omega) (ev_pos (by omega) ?_)))
      rw [w]
      refine ev_pos (by omega) (ev_pos (by rw [bs_size]; omega) ?_)
      rw [Int.toNat_natCast, Int.toNat_natCast, bs_extAll, bs_extHead, e3]
      have z := ih (l.drop (j + 1)) (acc ++ [bs (Cut.upTo c l)]) (by rw [List.length_drop]; omega) (by rw [List.length_append, List.length_singleton, List.length_drop]; omega)
      rw [List.append_assoc] at z
      exact z
    · have h' : (l.any (fun x => x == c)) = false := Bool.eq_false_iff.2 h
      have e : placeOf (fun x => x == c) l = -1 := by
        unfold placeOf
        rw [h']
        rfl
      rw [e, (Cut.cutAt_no c l h').1]
      refine ev_pos (by omega) (ev_pos (by omega) ?_)
      exact Ev.now _
theorem split_ev (c : UInt8) (l : List UInt8) (hl : l.length < 8796093022207) : Ev (fun k => semantic_zzSplit.f k (bs l) (bs [c])) ((Cut.cutAt c l).map bs) := by
  unfold semantic_zzSplit.f
  refine ev_neg (by rw [bs_size]; simp) ?_
  have := sp_loop c l.length l [] (Nat.le_refl _) (by simpa using hl)
  exact this
end Go.Proofs.YtchbfjjeodnocaaDoor.QC
