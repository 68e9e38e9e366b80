/- What stands behind a Red Hat part, as a plain law. No program. -/
import Derived.Test.YtojabknjniihmaaRpm
namespace Go.Proofs.Ytojabknjniihmaa.Rpm
open Go.Proofs.Ytojabknjniihmaa.Ord
set_option linter.unusedVariables false
set_option linter.unusedSimpArgs false
def al (c : UInt8) : Bool := let_ c || dig c
/-- It begins with no letter and no digit. -/
def stop : List UInt8 → Bool
  | [] => true
  | c :: _ => !al c
theorem tw_stop {p : UInt8 → Bool} (hp : ∀ c, p c = true → al c = true) {x : List UInt8} (hx : stop x = true) : ∀ a : List UInt8, (a ++ x).takeWhile p = a.takeWhile p ∧ (a ++ x).dropWhile p = a.dropWhile p ++ x
  | [] => by
    cases x with
    | nil => exact ⟨rfl, rfl⟩
    | cons c r =>
      have : p c = false := by
        cases h : p c with
        | false => rfl
        | true =>
          have := hp c h
          simp [stop, this] at hx
      simp [this]
  | c :: r => by
    have ih := tw_stop hp hx r
    by_cases h : p c = true
    · simp only [List.cons_append, List.takeWhile_cons_of_pos h, List.dropWhile_cons_of_pos h]
      exact ⟨by rw [ih.1], ih.2⟩
    · simp only [List.cons_append, List.takeWhile_cons_of_neg h, List.dropWhile_cons_of_neg h]
      simp
theorem key_pre (n : Nat) : ∀ a : List UInt8, a.length ≤ n → a.all al = true → ∃ P : List Tok, ∀ x : List UInt8, stop x = true → key (a ++ x) = P ++ key x := by
  induction n with
  | zero =>
    intro a ha _
    have : a = [] := List.length_eq_zero_iff.1 (by omega)
    subst this
    exact ⟨[], fun x _ => rfl⟩
  | succ n ih =>
    intro a ha hall
    cases a with
    | nil => exact ⟨[], fun x _ => rfl⟩
    | cons c r =>
      have hc : al c = true := by
        rw [List.all_cons] at hall
        simp at hall
        exact hall.1
      have hs : ∀ x, skip ((c :: r) ++ x) = (c :: r) ++ x := by
        intro x
        unfold skip
        rw [List.cons_append, List.dropWhile_cons_of_neg]
        unfold sep al at *
        revert hc
        cases let_ c <;> cases dig c <;> simp
      have rest : ∀ p : UInt8 → Bool, (∀ c, p c = true → al c = true) → p c = true → ∃ P : List Tok, ∀ x, stop x = true → ∀ m, ((c :: r).dropWhile p ++ x).length < m → toks m ((c :: r).dropWhile p ++ x) = P ++ key x := by
        intro p hp hpc
        have hlt := drop_lt (r := r) hpc
        simp only [List.length_cons] at ha
        obtain ⟨P, hP⟩ := ih ((c :: r).dropWhile p) (by omega) (by
          rw [List.all_eq_true] at hall ⊢
          exact fun y hy => hall y (List.Sublist.subset (List.dropWhile_sublist _) hy))
        refine ⟨P, fun x hx m hm => ?_⟩
        obtain ⟨j, rfl⟩ : ∃ j, m = ((c :: r).dropWhile p ++ x).length + 1 + j := ⟨m - (((c :: r).dropWhile p ++ x).length + 1), by omega⟩
        rw [toks_any, ← hP x hx]
        rfl
      by_cases hd : dig c = true
      · obtain ⟨P, hP⟩ := rest dig (fun c h => by unfold al; rw [h, Bool.or_true]) hd
        refine ⟨(3, ((strip0 ((c :: r).takeWhile dig)).length : Int), strip0 ((c :: r).takeWhile dig)) :: P, fun x hx => ?_⟩
        have t := tw_stop (p := dig) (fun c h => by unfold al; rw [h, Bool.or_true]) hx (c :: r)
        have m : mark ((c :: r) ++ x) = 3 := by
          have h := hd
          unfold dig at h
          simp at h
          simp only [List.cons_append, mark]
          rw [if_neg (by omega), if_neg (by omega), if_pos hd]
        unfold key
        rw [toks, hs, m, t.1, t.2]
        rw [if_neg (by omega), if_neg (by omega), if_pos rfl, hP x hx _ (by
          have := drop_lt (r := r) hd
          simp only [List.length_append, List.length_cons]
          omega)]
        rfl
      · have hl : let_ c = true := by
          unfold al at hc
          simpa [hd] using hc
        obtain ⟨P, hP⟩ := rest let_ (fun c h => by unfold al; rw [h, Bool.true_or]) hl
        refine ⟨(2, 0, (c :: r).takeWhile let_) :: P, fun x hx => ?_⟩
        have t := tw_stop (p := let_) (fun c h => by unfold al; rw [h, Bool.true_or]) hx (c :: r)
        have m : mark ((c :: r) ++ x) = 2 := by
          have h := hl
          unfold let_ at h
          simp at h
          simp only [List.cons_append, mark]
          rw [if_neg (by omega), if_neg (by omega), if_neg hd]
        unfold key
        rw [toks, hs, m, t.1, t.2]
        rw [if_neg (by omega), if_neg (by omega), if_neg (by omega), hP x hx _ (by
          have := drop_lt (r := r) hl
          simp only [List.length_append, List.length_cons]
          omega)]
        rfl
theorem lexL_pre {α : Type} {c : α → α → Int} (h : Cmp c) (P u v : List α) : lexL c (P ++ u) (P ++ v) = lexL c u v := by
  induction P with
  | nil => rfl
  | cons x xs ih =>
    simp only [List.cons_append, lexL]
    rw [if_pos (h.self x), ih]
theorem parts_pre (a x y : List UInt8) (ha : a ≠ []) (hall : a.all al = true) (hx : stop x = true) (hy : stop y = true) : parts (a ++ x) (a ++ y) = lexL cT (key x) (key y) := by
  obtain ⟨P, hP⟩ := key_pre a.length a (Nat.le_refl _) hall
  rw [parts_key, hP x hx, hP y hy, lexL_pre cT_cmp]
  have f : ∀ z, full (a ++ z) = 1 := by
    intro z
    unfold full
    rw [if_neg (by simp [ha])]
  rw [f, f, if_pos (by decide)]
theorem key_mark (l : List UInt8) : ∃ t r, key l = t :: r ∧ t.1 = mark (skip l) := toks_head _ _
theorem lex_mark (x y : List UInt8) (h : mark (skip x) ≠ mark (skip y)) : lexL cT (key x) (key y) = cI (mark (skip x)) (mark (skip y)) := by
  obtain ⟨t, r, e1, e2⟩ := key_mark x
  obtain ⟨t', r', e1', e2'⟩ := key_mark y
  have z : cI t.1 t'.1 ≠ 0 := by
    rw [e2, e2']
    exact fun z => h (cI_zero.1 z)
  have hc : cT t t' = cI t.1 t'.1 := by
    unfold cT
    rw [if_neg z]
  rw [e1, e1']
  simp only [lexL]
  rw [hc, if_neg z, e2, e2']
theorem behind (a s : List UInt8) (ha : a ≠ []) (hall : a.all al = true) : parts (a ++ 126 :: s) a = -1 ∧ parts (a ++ 94 :: s) a = 1 ∧ parts a (a ++ 126 :: s) = 1 ∧ parts (a ++ 94 :: s) (a ++ [46, 49]) = -1 := by
  have t : stop (126 :: s) = true := by rfl
  have c : stop (94 :: s) = true := by rfl
  have p : stop [46, 49] = true := by rfl
  have mt : mark (skip (126 :: s)) = -1 := by rfl
  have mc : mark (skip (94 :: s)) = 1 := by rfl
  have mp : mark (skip [46, 49]) = 3 := by rfl
  have me : mark (skip []) = 0 := by rfl
  have h1 : parts (a ++ 126 :: s) a = -1 := by
    have := parts_pre a (126 :: s) [] ha hall t rfl
    rw [List.append_nil] at this
    rw [this, lex_mark _ _ (by rw [mt, me]; decide), mt, me]
    rfl
  have h2 : parts (a ++ 94 :: s) a = 1 := by
    have := parts_pre a (94 :: s) [] ha hall c rfl
    rw [List.append_nil] at this
    rw [this, lex_mark _ _ (by rw [mc, me]; decide), mc, me]
    rfl
  refine ⟨h1, h2, ?_, ?_⟩
  · rw [parts_cmp.flip, h1]
    rfl
  · rw [parts_pre a _ _ ha hall c p, lex_mark _ _ (by rw [mc, mp]; decide), mc, mp]
    rfl
end Go.Proofs.Ytojabknjniihmaa.Rpm
