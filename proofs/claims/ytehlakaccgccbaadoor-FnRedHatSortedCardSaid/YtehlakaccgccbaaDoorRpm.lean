/- The order of Red Hat's parts (rpmvercmp) as a plain function on bytes, and that it is an order. No program. -/
import Derived.Test.YtehlakaccgccbaaDoorOrd
namespace Go.Proofs.YtehlakaccgccbaaDoor.Rpm
set_option linter.unusedVariables false
set_option linter.unusedSimpArgs false
open Go.Proofs.YtehlakaccgccbaaDoor.Ord

def dig (c : UInt8) : Bool := decide (48 ≤ c.toNat ∧ c.toNat ≤ 57)
def let_ (c : UInt8) : Bool := decide (65 ≤ c.toNat ∧ c.toNat ≤ 90 ∨ 97 ≤ c.toNat ∧ c.toNat ≤ 122)
def sep (c : UInt8) : Bool := !let_ c && !dig c && decide (c.toNat ≠ 126) && decide (c.toNat ≠ 94)
def skip (l : List UInt8) : List UInt8 := l.dropWhile sep
def strip0 (l : List UInt8) : List UInt8 := l.dropWhile (fun c => c.toNat == 48)
/-- Numbers in digits. -/
def numC (a b : List UInt8) : Int := if cI (strip0 a).length (strip0 b).length = 0 then cS (strip0 a) (strip0 b) else cI (strip0 a).length (strip0 b).length
/-- How a text goes on: -1 a tilde, 0 it ends, 1 a caret, 2 a letter, 3 a digit (behind 'skip' nothing else stands there). -/
def mark : List UInt8 → Int
  | [] => 0
  | c :: _ => if c.toNat = 126 then -1 else if c.toNat = 94 then 1 else if dig c then 3 else 2
def rpm : Nat → List UInt8 → List UInt8 → Int
  | 0, _, _ => 0
  | k + 1, a, b =>
    if mark (skip a) = mark (skip b) then
      if mark (skip a) = 0 then 0
      else if mark (skip a) < 2 then rpm k (skip a).tail (skip b).tail
      else if mark (skip a) = 3 then
        (if numC ((skip a).takeWhile dig) ((skip b).takeWhile dig) = 0 then rpm k ((skip a).dropWhile dig) ((skip b).dropWhile dig) else numC ((skip a).takeWhile dig) ((skip b).takeWhile dig))
      else (if cS ((skip a).takeWhile let_) ((skip b).takeWhile let_) = 0 then rpm k ((skip a).dropWhile let_) ((skip b).dropWhile let_) else cS ((skip a).takeWhile let_) ((skip b).takeWhile let_))
    else cI (mark (skip a)) (mark (skip b))

/-! ### The same by tokens -/
abbrev Tok := Int × Int × List UInt8
def cT : Tok → Tok → Int := fun a b => if cI a.1 b.1 = 0 then (if cI a.2.1 b.2.1 = 0 then cS a.2.2 b.2.2 else cI a.2.1 b.2.1) else cI a.1 b.1
theorem cT_cmp : Cmp cT := Cmp.then_ (cI_cmp.key (fun t : Tok => t.1)) (Cmp.then_ (cI_cmp.key (fun t : Tok => t.2.1)) (cS_cmp.key (fun t : Tok => t.2.2)))
def toks : Nat → List UInt8 → List Tok
  | 0, _ => []
  | k + 1, l =>
    if mark (skip l) = 0 then [(0, 0, [])]
    else if mark (skip l) < 2 then (mark (skip l), 0, []) :: toks k (skip l).tail
    else if mark (skip l) = 3 then (3, ((strip0 ((skip l).takeWhile dig)).length : Int), strip0 ((skip l).takeWhile dig)) :: toks k ((skip l).dropWhile dig)
    else (2, 0, (skip l).takeWhile let_) :: toks k ((skip l).dropWhile let_)
theorem mark_cases (l : List UInt8) : mark l = -1 ∨ mark l = 0 ∨ mark l = 1 ∨ mark l = 2 ∨ mark l = 3 := by
  cases l with
  | nil => exact .inr (.inl rfl)
  | cons c r =>
    simp only [mark]
    repeat' split
    all_goals simp
theorem mark_nil {l : List UInt8} (h : mark l = 0) : l = [] := by
  cases l with
  | nil => rfl
  | cons c r =>
    simp only [mark] at h
    repeat' split at h
    all_goals simp at h
theorem toks_head (k : Nat) (l : List UInt8) : ∃ t r, toks (k + 1) l = t :: r ∧ t.1 = mark (skip l) := by
  simp only [toks]
  rcases mark_cases (skip l) with h | h | h | h | h <;> simp only [h] <;> simp
theorem rpm_toks (k : Nat) : ∀ a b : List UInt8, rpm k a b = lexL cT (toks k a) (toks k b) := by
  induction k with
  | zero => intro a b; rfl
  | succ k ih =>
    intro a b
    by_cases e : mark (skip a) = mark (skip b)
    · simp only [rpm, toks]
      rw [if_pos e]
      rcases mark_cases (skip a) with h | h | h | h | h
      · rw [← e, h]
        simp [lexL, cT, cI, ih, cS_cmp.self]
      · rw [← e, h]
        simp [lexL, cT, cI, cS_cmp.self]
      · rw [← e, h]
        simp [lexL, cT, cI, ih, cS_cmp.self]
      · rw [← e, h]
        simp [lexL, cT, cI, ih]
      · rw [← e, h]
        have z3 : cI 3 3 = 0 := rfl
        simp [lexL, cT, ih, numC, z3]
    · obtain ⟨t, r, h1, h2⟩ := toks_head k a
      obtain ⟨t', r', h1', h2'⟩ := toks_head k b
      have z : cI t.1 t'.1 ≠ 0 := by
        rw [h2, h2']
        exact fun z => e (cI_zero.1 z)
      have hc : cT t t' = cI t.1 t'.1 := by
        unfold cT
        rw [if_neg z]
      rw [h1, h1']
      simp only [lexL, rpm]
      rw [if_neg e, hc, if_neg z, h2, h2']

/-! ### Enough rounds -/
theorem skip_le (l : List UInt8) : (skip l).length ≤ l.length := List.Sublist.length_le (List.dropWhile_sublist _)
theorem drop_lt {p : UInt8 → Bool} {c : UInt8} {r : List UInt8} (h : p c = true) : ((c :: r).dropWhile p).length ≤ r.length := by
  rw [List.dropWhile_cons_of_pos h]
  exact List.Sublist.length_le (List.dropWhile_sublist _)
theorem mark_dig {c : UInt8} {r : List UInt8} (h : mark (c :: r) = 3) : dig c = true := by
  simp only [mark] at h
  by_cases d : dig c = true
  · exact d
  · rw [if_neg d] at h
    repeat' split at h
    all_goals simp at h
/-- Behind 'skip' what has mark 2 is a letter. -/
theorem skip_head {l : List UInt8} {c : UInt8} {r : List UInt8} (h : skip l = c :: r) : sep c = false := by
  have := List.head_dropWhile_not (p := sep) (l := l) (by unfold skip at h; rw [h]; simp)
  unfold skip at h
  simpa [h] using this
theorem mark_let {l : List UInt8} {c : UInt8} {r : List UInt8} (h : skip l = c :: r) (hm : mark (c :: r) = 2) : let_ c = true ∧ dig c = false := by
  have hs := skip_head h
  simp only [mark] at hm
  by_cases d : dig c = true
  · rw [if_pos d] at hm
    repeat' split at hm
    all_goals simp at hm
  · have d' : dig c = false := by simpa using d
    refine ⟨?_, d'⟩
    by_cases h1 : c.toNat = 126
    · rw [if_pos h1] at hm; simp at hm
    · by_cases h2 : c.toNat = 94
      · rw [if_neg h1, if_pos h2] at hm; simp at hm
      · by_cases hl : let_ c = true
        · exact hl
        · have hl' : let_ c = false := by simpa using hl
          unfold sep at hs
          simp [d', h1, h2, hl'] at hs
theorem toks_more (k : Nat) : ∀ l : List UInt8, l.length < k → toks (k + 1) l = toks k l := by
  induction k with
  | zero => intro l h; omega
  | succ k ih =>
    intro l h
    have hle := skip_le l
    conv => lhs; unfold toks
    conv => rhs; unfold toks
    rcases mark_cases (skip l) with m | m | m | m | m
    · simp only [m]
      cases hs : skip l with
      | nil => simp [hs, mark] at m
      | cons c r =>
        rw [hs] at hle
        simp only [List.length_cons] at hle
        simp only [List.tail_cons]
        rw [ih r (by omega)]
        simp
    · simp only [m]; simp
    · simp only [m]
      cases hs : skip l with
      | nil => simp [hs, mark] at m
      | cons c r =>
        rw [hs] at hle
        simp only [List.length_cons] at hle
        simp only [List.tail_cons]
        rw [ih r (by omega)]
        simp
    · simp only [m]
      cases hs : skip l with
      | nil => simp [hs, mark] at m
      | cons c r =>
        have hl := (mark_let hs (by rw [← hs]; exact m)).1
        rw [hs] at hle
        simp only [List.length_cons] at hle
        have := drop_lt (r := r) hl
        have e := ih ((c :: r).dropWhile let_) (by omega)
        simp [e]
    · simp only [m]
      cases hs : skip l with
      | nil => simp [hs, mark] at m
      | cons c r =>
        have hl := mark_dig (r := r) (by rw [← hs]; exact m)
        rw [hs] at hle
        simp only [List.length_cons] at hle
        have := drop_lt (r := r) hl
        have e := ih ((c :: r).dropWhile dig) (by omega)
        simp [e]
theorem toks_any (l : List UInt8) (k : Nat) : toks (l.length + 1 + k) l = toks (l.length + 1) l := by
  induction k with
  | zero => rfl
  | succ k ih => rw [show l.length + 1 + (k + 1) = (l.length + 1 + k) + 1 by omega, toks_more _ l (by omega), ih]
/-- A text's key. -/
def key (l : List UInt8) : List Tok := toks (l.length + 1) l
theorem rpm_key (k : Nat) (a b : List UInt8) (ha : a.length < k) (hb : b.length < k) : rpm k a b = lexL cT (key a) (key b) := by
  rw [rpm_toks]
  obtain ⟨i, rfl⟩ : ∃ i, k = a.length + 1 + i := ⟨k - (a.length + 1), by omega⟩
  obtain ⟨j, e⟩ : ∃ j, a.length + 1 + i = b.length + 1 + j := ⟨a.length + 1 + i - (b.length + 1), by omega⟩
  rw [toks_any a i, e, toks_any b j]
  rfl

/-- Two parts: an empty one is older than any other. -/
def parts (a b : List UInt8) : Int := if a = [] ∨ b = [] then cI a.length b.length else rpm (a.length + b.length + 1) a b
def full (l : List UInt8) : Int := if l = [] then 0 else 1
theorem parts_key (a b : List UInt8) : parts a b = if cI (full a) (full b) = 0 then lexL cT (key a) (key b) else cI (full a) (full b) := by
  unfold parts full
  cases a with
  | nil =>
    cases b with
    | nil => simp [cI, (lexL_cmp cT_cmp).self]
    | cons y ys => simp [cI]
  | cons x xs =>
    cases b with
    | nil =>
      simp [cI]
      omega
    | cons y ys =>
      simp [cI]
      rw [rpm_key _ _ _ (by simp; omega) (by simp; omega)]
theorem parts_cmp : Cmp parts := by
  have h : parts = fun a b => if cI (full a) (full b) = 0 then lexL cT (key a) (key b) else cI (full a) (full b) := by
    funext a b
    exact parts_key a b
  rw [h]
  exact Cmp.then_ (cI_cmp.key full) ((lexL_cmp cT_cmp).key key)
end Go.Proofs.YtehlakaccgccbaaDoor.Rpm
