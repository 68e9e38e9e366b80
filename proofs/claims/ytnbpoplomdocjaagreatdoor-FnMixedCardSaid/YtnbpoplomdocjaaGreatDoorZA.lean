/- Orders by comparators: what answers -1, 0 or 1, is turned by turning its arguments, and chains. Plain Lean, no program.
   Whole numbers in words of 64 bits, the lowest first, and in bytes, the highest first. Plain Lean, no program.
   The order of Red Hat's parts (rpmvercmp) as a plain function on bytes, and that it is an order. No program.
   Whole numbers in decimal, as the parser reads them: a sign or none, digits, one at least. Plain Lean, no program.
   Segments and identifiers of versions: numbers by value, others by their bytes; and that these are orders. Plain Lean, no program.
   Numbers in digits are ordered as their values; texts without a sign ahead of digits are read as what they are. Plain Lean, no program. -/
import Derived.RowKit
namespace Go.Proofs.YtnbpoplomdocjaaGreatDoor.Ord
set_option linter.unusedVariables false

/-- A comparator of an order. -/
structure Cmp {α : Type} (c : α → α → Int) : Prop where
  rng : ∀ a b, c a b = -1 ∨ c a b = 0 ∨ c a b = 1
  flip : ∀ a b, c b a = - c a b
  tr : ∀ a b d, c a b ≤ 0 → c b d ≤ 0 → c a d ≤ 0 ∧ (c a d = 0 → c a b = 0 ∧ c b d = 0)

namespace Cmp
variable {α β : Type} {c : α → α → Int}
theorem self (h : Cmp c) (a : α) : c a a = 0 := by have := h.flip a a; omega
theorem zero_tr (h : Cmp c) {a b d : α} (h1 : c a b = 0) (h2 : c b d = 0) : c a d = 0 := by
  have x := (h.tr a b d (by omega) (by omega)).1
  have y := (h.tr d b a (by rw [h.flip b d]; omega) (by rw [h.flip a b]; omega)).1
  rw [h.flip a d] at y
  omega
/-- c1 tells; where it is 0, c2. -/
theorem then_ {c1 c2 : α → α → Int} (h1 : Cmp c1) (h2 : Cmp c2) : Cmp (fun a b => if c1 a b = 0 then c2 a b else c1 a b) where
  rng a b := by
    show (if c1 a b = 0 then c2 a b else c1 a b) = -1 ∨ (if c1 a b = 0 then c2 a b else c1 a b) = 0 ∨ (if c1 a b = 0 then c2 a b else c1 a b) = 1
    split
    · exact h2.rng a b
    · exact h1.rng a b
  flip a b := by
    show (if c1 b a = 0 then c2 b a else c1 b a) = - (if c1 a b = 0 then c2 a b else c1 a b)
    have e := h1.flip a b
    by_cases z : c1 a b = 0
    · rw [if_pos z, if_pos (by omega), h2.flip a b]
    · rw [if_neg z, if_neg (by omega), e]
  tr a b d := by
    show (if c1 a b = 0 then c2 a b else c1 a b) ≤ 0 → (if c1 b d = 0 then c2 b d else c1 b d) ≤ 0 → (if c1 a d = 0 then c2 a d else c1 a d) ≤ 0 ∧ ((if c1 a d = 0 then c2 a d else c1 a d) = 0 → (if c1 a b = 0 then c2 a b else c1 a b) = 0 ∧ (if c1 b d = 0 then c2 b d else c1 b d) = 0)
    intro x y
    by_cases z1 : c1 a b = 0
    · by_cases z2 : c1 b d = 0
      · have z3 := h1.zero_tr z1 z2
        rw [if_pos z1] at x ⊢
        rw [if_pos z2] at y ⊢
        rw [if_pos z3]
        exact h2.tr a b d x y
      · rw [if_neg z2] at y
        have t := h1.tr a b d (by omega) y
        have z3 : c1 a d ≠ 0 := fun z => z2 (t.2 z).2
        rw [if_neg z3]
        exact ⟨t.1, fun z => absurd z z3⟩
    · rw [if_neg z1] at x
      by_cases z2 : c1 b d = 0
      · have t := h1.tr a b d x (by omega)
        have z3 : c1 a d ≠ 0 := fun z => z1 (t.2 z).1
        rw [if_neg z3]
        exact ⟨t.1, fun z => absurd z z3⟩
      · rw [if_neg z2] at y
        have t := h1.tr a b d x y
        have z3 : c1 a d ≠ 0 := fun z => z1 (t.2 z).1
        rw [if_neg z3]
        exact ⟨t.1, fun z => absurd z z3⟩
/-- By a key. -/
theorem key (h : Cmp c) (f : β → α) : Cmp (fun a b => c (f a) (f b)) := ⟨fun a b => h.rng _ _, fun a b => h.flip _ _, fun a b d => h.tr _ _ _⟩
end Cmp

/-- Whole numbers. -/
def cI (a b : Int) : Int := if a < b then -1 else if b < a then 1 else 0
theorem cI_cmp : Cmp cI where
  rng a b := by unfold cI; split; exact .inl rfl; split; exact .inr (.inr rfl); exact .inr (.inl rfl)
  flip a b := by unfold cI; repeat' split; all_goals omega
  tr a b d := by unfold cI; repeat' split; all_goals omega
theorem cI_zero {a b : Int} : cI a b = 0 ↔ a = b := by unfold cI; repeat' split; all_goals omega
theorem cI_neg {a b : Int} : cI a b = -1 ↔ a < b := by unfold cI; repeat' split; all_goals omega
theorem cI_pos {a b : Int} : cI a b = 1 ↔ b < a := by unfold cI; repeat' split; all_goals omega

/-- Lists, element by element; the shorter one first. -/
def lexL {α : Type} (c : α → α → Int) : List α → List α → Int
  | [], [] => 0
  | [], _ :: _ => -1
  | _ :: _, [] => 1
  | x :: xs, y :: ys => if c x y = 0 then lexL c xs ys else c x y
theorem lexL_cmp {α : Type} {c : α → α → Int} (h : Cmp c) : Cmp (lexL c) where
  rng a := by
    induction a with
    | nil =>
      intro b
      cases b with
      | nil => exact .inr (.inl rfl)
      | cons y ys => exact .inl rfl
    | cons x xs ih =>
      intro b
      cases b with
      | nil => exact .inr (.inr rfl)
      | cons y ys =>
        simp only [lexL]
        split
        · exact ih ys
        · exact h.rng x y
  flip a := by
    induction a with
    | nil =>
      intro b
      cases b with
      | nil => rfl
      | cons y ys => rfl
    | cons x xs ih =>
      intro b
      cases b with
      | nil => rfl
      | cons y ys =>
        simp only [lexL]
        have e := h.flip x y
        by_cases z : c x y = 0
        · rw [if_pos z, if_pos (by omega), ih ys]
        · rw [if_neg z, if_neg (by omega), e]
  tr a := by
    induction a with
    | nil =>
      intro b d
      cases b with
      | nil =>
        intro _ y
        exact ⟨y, fun z => ⟨rfl, z⟩⟩
      | cons y ys =>
        cases d with
        | nil => intro _ y; simp [lexL] at y
        | cons z zs => intro _ _; simp [lexL]
    | cons x xs ih =>
      intro b d
      cases b with
      | nil => intro y; simp [lexL] at y
      | cons y ys =>
        cases d with
        | nil => intro _ y; simp [lexL] at y
        | cons z zs =>
          simp only [lexL]
          intro p q
          by_cases z1 : c x y = 0
          · by_cases z2 : c y z = 0
            · have z3 := h.zero_tr z1 z2
              rw [if_pos z1] at p ⊢
              rw [if_pos z2] at q ⊢
              rw [if_pos z3]
              exact ih ys zs p q
            · rw [if_neg z2] at q
              have t := h.tr x y z (by omega) q
              have z3 : c x z ≠ 0 := fun z => z2 (t.2 z).2
              rw [if_neg z3]
              exact ⟨t.1, fun z => absurd z z3⟩
          · rw [if_neg z1] at p
            have q' : c y z ≤ 0 := by
              by_cases z2 : c y z = 0
              · omega
              · rwa [if_neg z2] at q
            have t := h.tr x y z p q'
            have z3 : c x z ≠ 0 := fun z => z1 (t.2 z).1
            rw [if_neg z3]
            exact ⟨t.1, fun z => absurd z z3⟩

/-- n elements of two lists, z behind their ends. -/
def padN {α : Type} (c : α → α → Int) (z : α) : Nat → List α → List α → Int
  | 0, _, _ => 0
  | n + 1, l, m => if c (l.headD z) (m.headD z) = 0 then padN c z n l.tail m.tail else c (l.headD z) (m.headD z)
/-- Two lists, the shorter one filled up with z. -/
def padL {α : Type} (c : α → α → Int) (z : α) (l m : List α) : Int := padN c z (max l.length m.length) l m
/-- Bytes of texts. -/
def cB (a b : UInt8) : Int := cI a.toNat b.toNat
theorem cB_cmp : Cmp cB := cI_cmp.key (fun a : UInt8 => (a.toNat : Int))
theorem cB_zero {a b : UInt8} : cB a b = 0 ↔ a = b := by
  unfold cB
  rw [cI_zero]
  constructor
  · intro h
    exact UInt8.toNat_inj.1 (by omega)
  · intro h
    rw [h]
def cS : List UInt8 → List UInt8 → Int := lexL cB
theorem cS_cmp : Cmp cS := lexL_cmp cB_cmp
theorem cS_zero : ∀ {a b : List UInt8}, cS a b = 0 ↔ a = b
  | [], [] => by simp [cS, lexL]
  | [], _ :: _ => by simp [cS, lexL]
  | _ :: _, [] => by simp [cS, lexL]
  | x :: xs, y :: ys => by
    have ih := @cS_zero xs ys
    unfold cS at ih ⊢
    simp only [lexL]
    by_cases z : cB x y = 0
    · rw [if_pos z, ih, cB_zero.1 z]
      simp
    · rw [if_neg z]
      constructor
      · intro h
        exact absurd h z
      · intro h
        injection h with h1 h2
        exact absurd (cB_zero.2 h1) z

end Go.Proofs.YtnbpoplomdocjaaGreatDoor.Ord

namespace Go.Proofs.YtnbpoplomdocjaaGreatDoor.Dg
set_option linter.unusedVariables false
open Go.Proofs.YtnbpoplomdocjaaGreatDoor.Ord

def val : List Nat → Nat
  | [] => 0
  | d :: r => d + 18446744073709551616 * val r
def Words (l : List Nat) : Prop := ∀ d ∈ l, d < 18446744073709551616
theorem Words.tail {d : Nat} {r : List Nat} (h : Words (d :: r)) : Words r := fun x hx => h x (List.mem_cons_of_mem _ hx)
theorem Words.head {d : Nat} {r : List Nat} (h : Words (d :: r)) : d < 18446744073709551616 := h d List.mem_cons_self
/-- The words of a number: the last one is not 0. -/
def dg (n : Nat) : List Nat := if h : n = 0 then [] else n % 18446744073709551616 :: dg (n / 18446744073709551616)
termination_by n
decreasing_by omega
theorem dg_zero : dg 0 = [] := by unfold dg; simp
theorem dg_pos {n : Nat} (h : n ≠ 0) : dg n = n % 18446744073709551616 :: dg (n / 18446744073709551616) := by
  conv => lhs; unfold dg
  rw [dif_neg h]
theorem dg_nil {n : Nat} (h : dg n = []) : n = 0 := by
  by_cases z : n = 0
  · exact z
  · rw [dg_pos z] at h
    exact absurd h (by simp)
theorem val_dg (n : Nat) : val (dg n) = n := by
  induction n using Nat.strongRecOn with
  | _ n ih =>
    by_cases h : n = 0
    · rw [h, dg_zero]
      rfl
    · rw [dg_pos h]
      simp only [val]
      rw [ih _ (by omega)]
      omega
theorem dg_words (n : Nat) : Words (dg n) := by
  induction n using Nat.strongRecOn with
  | _ n ih =>
    by_cases h : n = 0
    · rw [h, dg_zero]
      intro d hd
      simp at hd
    · rw [dg_pos h]
      intro d hd
      rcases List.mem_cons.1 hd with rfl | hd
      · omega
      · exact ih _ (by omega) d hd
theorem val_zero {l : List Nat} (h : ∀ d ∈ l, d = 0) : val l = 0 := by
  induction l with
  | nil => rfl
  | cons d r ih =>
    simp only [val]
    rw [ih (fun x hx => h x (List.mem_cons_of_mem _ hx)), h d List.mem_cons_self]
theorem val_append (a b : List Nat) : val (a ++ b) = val a + 18446744073709551616 ^ a.length * val b := by
  induction a with
  | nil => simp [val]
  | cons d r ih =>
    simp only [List.cons_append, val, ih, List.length_cons, Nat.pow_succ]
    rw [Nat.mul_add, Nat.mul_comm (18446744073709551616 ^ r.length) 18446744073709551616, Nat.mul_assoc]
    omega
theorem val_lt {l : List Nat} (h : Words l) : val l < 18446744073709551616 ^ l.length := by
  induction l with
  | nil => simp [val]
  | cons d r ih =>
    have a := h.head
    have b := ih h.tail
    simp only [val, List.length_cons, Nat.pow_succ]
    omega
/-- Words whose last one is not 0 are those of their number. -/
theorem dg_val {l : List Nat} (h : Words l) (hl : ∀ x, l.getLast? = some x → x ≠ 0) : dg (val l) = l := by
  induction l with
  | nil => exact dg_zero
  | cons d r ih =>
    have a := h.head
    have hr : dg (val r) = r := by
      refine ih h.tail ?_
      intro x hx
      refine hl x ?_
      cases r with
      | nil => simp at hx
      | cons y ys => rw [List.getLast?_cons_cons]; exact hx
    have nz : val (d :: r) ≠ 0 := by
      simp only [val]
      cases r with
      | nil =>
        have := hl d (by simp)
        simp only [val]
        omega
      | cons y ys =>
        have : val (y :: ys) ≠ 0 := by
          intro e
          rw [e, dg_zero] at hr
          exact absurd hr (by simp)
        omega
    rw [dg_pos nz]
    simp only [val]
    rw [show (d + 18446744073709551616 * val r) % 18446744073709551616 = d by omega, show (d + 18446744073709551616 * val r) / 18446744073709551616 = val r by omega, hr]
/-- What is left where the zeros at the end are taken away. -/
theorem dg_take {l : List Nat} (h : Words l) (i : Nat) (hi : i ≤ l.length) (hz : ∀ d ∈ l.drop i, d = 0) (hn : ∀ x, (l.take i).getLast? = some x → x ≠ 0) : l.take i = dg (val l) := by
  have e : val l = val (l.take i) := by
    conv => lhs; rw [← List.take_append_drop i l]
    rw [val_append, val_zero hz]
    omega
  rw [e, dg_val (fun d hd => h d (List.mem_of_mem_take hd)) hn]

/-! ### Comparing -/
/-- Words of one length, from the highest. -/
def cE : List Nat → List Nat → Int
  | x :: xs, y :: ys => if cE xs ys = 0 then cI x y else cE xs ys
  | _, _ => 0
theorem cE_val : ∀ (l m : List Nat), l.length = m.length → Words l → Words m → cE l m = cI (val l) (val m)
  | [], [], _, _, _ => by simp [cE, val, cI]
  | x :: xs, y :: ys, h, hl, hm => by
    have a := hl.head
    have b := hm.head
    have ih := cE_val xs ys (by simpa using h) hl.tail hm.tail
    simp only [cE, val]
    rw [ih]
    unfold cI
    repeat' split
    all_goals omega
  | [], _ :: _, h, _, _ => by simp at h
  | _ :: _, [], h, _, _ => by simp at h
theorem cE_snoc : ∀ (a b : List Nat) (x y : Nat), a.length = b.length → cE (a ++ [x]) (b ++ [y]) = if cI x y = 0 then cE a b else cI x y
  | [], [], x, y, _ => by
    simp only [List.nil_append, cE]
    by_cases h : cI (x : Int) (y : Int) = 0
    · rw [if_pos h, if_pos trivial, h]
    · rw [if_neg h, if_pos trivial]
  | u :: a, v :: b, x, y, h => by
    have ih := cE_snoc a b x y (by simpa using h)
    simp only [List.cons_append, cE]
    rw [ih]
    by_cases z : cI (x : Int) (y : Int) = 0
    · rw [if_pos z, if_pos z]
    · rw [if_neg z, if_neg z, if_neg z]
  | [], _ :: _, _, _, h => by simp at h
  | _ :: _, [], _, _, h => by simp at h
theorem dg_len_lt {a b : Nat} (h : (dg a).length < (dg b).length) : a < b := by
  have e : ∀ b : Nat, dg b ≠ [] → 18446744073709551616 ^ ((dg b).length - 1) ≤ b := by
    intro b
    induction b using Nat.strongRecOn with
    | _ b ih =>
      intro hb
      by_cases z : b = 0
      · rw [z, dg_zero] at hb
        exact absurd rfl hb
      · rw [dg_pos z]
        simp only [List.length_cons, Nat.add_sub_cancel]
        by_cases z2 : dg (b / 18446744073709551616) = []
        · rw [z2]
          simp
          omega
        · have := ih (b / 18446744073709551616) (by omega) z2
          have l : (dg (b / 18446744073709551616)).length = ((dg (b / 18446744073709551616)).length - 1) + 1 := by
            have : (dg (b / 18446744073709551616)).length ≠ 0 := fun e => z2 (List.length_eq_zero_iff.1 e)
            omega
          rw [l, Nat.pow_succ]
          omega
  have hb : dg b ≠ [] := by
    intro e
    rw [e] at h
    simp at h
  have h1 := val_lt (dg_words a)
  rw [val_dg] at h1
  have h2 := e b hb
  have h3 : 18446744073709551616 ^ (dg a).length ≤ 18446744073709551616 ^ ((dg b).length - 1) := Nat.pow_le_pow_right (by omega) (by omega)
  omega
def cW (l m : List Nat) : Int := if l.length = m.length then cE l m else cI l.length m.length
theorem cW_dg (a b : Nat) : cW (dg a) (dg b) = cI a b := by
  unfold cW
  by_cases h : (dg a).length = (dg b).length
  · rw [if_pos h, cE_val _ _ h (dg_words a) (dg_words b), val_dg, val_dg]
  · rw [if_neg h]
    rcases Nat.lt_or_gt_of_ne h with h | h
    · have := dg_len_lt h
      rw [cI_neg.2 (by omega), cI_neg.2 (by omega)]
    · have := dg_len_lt h
      rw [cI_pos.2 (by omega), cI_pos.2 (by omega)]

/-! ### n words -/
def dn : Nat → Nat → List Nat
  | 0, _ => []
  | n + 1, v => v % 18446744073709551616 :: dn n (v / 18446744073709551616)
/-! ### Bytes -/
/-- The words of a number are the first ones of any words that make it. -/
theorem dg_prefix (n : Nat) : ∀ l : List Nat, l.length = n → Words l → dg (val l) = l.take (dg (val l)).length := by
  induction n with
  | zero =>
    intro l hl _
    have : l = [] := List.length_eq_zero_iff.1 hl
    rw [this]
    simp [val, dg_zero]
  | succ n ih =>
    intro l hl hw
    rcases List.eq_nil_or_concat l with h | ⟨a, x, h⟩
    · rw [h] at hl
      simp at hl
    · rw [List.concat_eq_append] at h
      subst h
      have ha : a.length = n := by simpa using hl
      have hwa : Words a := fun d hd => hw d (by simp [hd])
      by_cases hx : x = 0
      · have e : val (a ++ [x]) = val a := by
          rw [val_append, hx]
          simp [val]
        have i := ih a ha hwa
        have len : (dg (val a)).length ≤ a.length := by
          rw [i, List.length_take]
          omega
        rw [e, List.take_append_of_le_length len]
        exact i
      · have e := dg_val hw (by
          intro y hy
          rw [List.getLast?_append] at hy
          simp at hy
          rw [← hy]
          exact hx)
        rw [e, List.take_of_length_le (Nat.le_refl _)]
end Go.Proofs.YtnbpoplomdocjaaGreatDoor.Dg

namespace Go.Proofs.YtnbpoplomdocjaaGreatDoor.Rpm
set_option linter.unusedVariables false
set_option linter.unusedSimpArgs false
open Go.Proofs.YtnbpoplomdocjaaGreatDoor.Ord

def dig (c : UInt8) : Bool := decide (48 ≤ c.toNat ∧ c.toNat ≤ 57)
def let_ (c : UInt8) : Bool := decide (65 ≤ c.toNat ∧ c.toNat ≤ 90 ∨ 97 ≤ c.toNat ∧ c.toNat ≤ 122)
def sep (c : UInt8) : Bool := !let_ c && !dig c && decide (c.toNat ≠ 126) && decide (c.toNat ≠ 94)
def skip (l : List UInt8) : List UInt8 := l.dropWhile sep
def strip0 (l : List UInt8) : List UInt8 := l.dropWhile (fun c => c.toNat == 48)
/-- Numbers in digits. -/
def numC (a b : List UInt8) : Int := if cI (strip0 a).length (strip0 b).length = 0 then cS (strip0 a) (strip0 b) else cI (strip0 a).length (strip0 b).length
/-- How a text goes on: -1 a tilde, 0 it ends, 1 a caret, 2 a letter, 3 a digit (behind 'skip' nothing else stands there). -/
def mark : List UInt8 → Int
  | [] => 0
  | c :: _ => if c.toNat = 126 then -1 else if c.toNat = 94 then 1 else if dig c then 3 else 2
def rpm : Nat → List UInt8 → List UInt8 → Int
  | 0, _, _ => 0
  | k + 1, a, b =>
    if mark (skip a) = mark (skip b) then
      if mark (skip a) = 0 then 0
      else if mark (skip a) < 2 then rpm k (skip a).tail (skip b).tail
      else if mark (skip a) = 3 then
        (if numC ((skip a).takeWhile dig) ((skip b).takeWhile dig) = 0 then rpm k ((skip a).dropWhile dig) ((skip b).dropWhile dig) else numC ((skip a).takeWhile dig) ((skip b).takeWhile dig))
      else (if cS ((skip a).takeWhile let_) ((skip b).takeWhile let_) = 0 then rpm k ((skip a).dropWhile let_) ((skip b).dropWhile let_) else cS ((skip a).takeWhile let_) ((skip b).takeWhile let_))
    else cI (mark (skip a)) (mark (skip b))

/-! ### The same by tokens -/
abbrev Tok := Int × Int × List UInt8
def toks : Nat → List UInt8 → List Tok
  | 0, _ => []
  | k + 1, l =>
    if mark (skip l) = 0 then [(0, 0, [])]
    else if mark (skip l) < 2 then (mark (skip l), 0, []) :: toks k (skip l).tail
    else if mark (skip l) = 3 then (3, ((strip0 ((skip l).takeWhile dig)).length : Int), strip0 ((skip l).takeWhile dig)) :: toks k ((skip l).dropWhile dig)
    else (2, 0, (skip l).takeWhile let_) :: toks k ((skip l).dropWhile let_)
/-! ### Enough rounds -/
/-- Behind 'skip' what has mark 2 is a letter. -/
theorem skip_head {l : List UInt8} {c : UInt8} {r : List UInt8} (h : skip l = c :: r) : sep c = false := by
  have := List.head_dropWhile_not (p := sep) (l := l) (by unfold skip at h; rw [h]; simp)
  unfold skip at h
  simpa [h] using this
theorem mark_let {l : List UInt8} {c : UInt8} {r : List UInt8} (h : skip l = c :: r) (hm : mark (c :: r) = 2) : let_ c = true ∧ dig c = false := by
  have hs := skip_head h
  simp only [mark] at hm
  by_cases d : dig c = true
  · rw [if_pos d] at hm
    repeat' split at hm
    all_goals simp at hm
  · have d' : dig c = false := by simpa using d
    refine ⟨?_, d'⟩
    by_cases h1 : c.toNat = 126
    · rw [if_pos h1] at hm; simp at hm
    · by_cases h2 : c.toNat = 94
      · rw [if_neg h1, if_pos h2] at hm; simp at hm
      · by_cases hl : let_ c = true
        · exact hl
        · have hl' : let_ c = false := by simpa using hl
          unfold sep at hs
          simp [d', h1, h2, hl'] at hs
/-- A text's key. -/
def key (l : List UInt8) : List Tok := toks (l.length + 1) l
/-- Two parts: an empty one is older than any other. -/
def parts (a b : List UInt8) : Int := if a = [] ∨ b = [] then cI a.length b.length else rpm (a.length + b.length + 1) a b
def full (l : List UInt8) : Int := if l = [] then 0 else 1
end Go.Proofs.YtnbpoplomdocjaaGreatDoor.Rpm

namespace Go.Proofs.YtnbpoplomdocjaaGreatDoor.Num
set_option linter.unusedVariables false
open Go.Proofs.YtnbpoplomdocjaaGreatDoor.Rpm

/-- The number that digits write. -/
def dec (l : List UInt8) : Nat := l.foldl (fun a c => a * 10 + (c.toNat - 48)) 0
theorem dec_nil : dec [] = 0 := rfl
theorem dec_snoc (l : List UInt8) (c : UInt8) : dec (l ++ [c]) = dec l * 10 + (c.toNat - 48) := by
  unfold dec
  rw [List.foldl_append]
  rfl
theorem dec_go (l : List UInt8) : ∀ a, l.foldl (fun a c => a * 10 + (c.toNat - 48)) a = a * 10 ^ l.length + dec l := by
  induction l with
  | nil => intro a; simp [dec]
  | cons c r ih =>
    intro a
    unfold dec
    rw [List.foldl_cons, List.foldl_cons, ih, ih (0 * 10 + (c.toNat - 48)), List.length_cons, Nat.pow_succ, Nat.add_mul, Nat.add_mul]
    simp only [Nat.zero_mul, Nat.zero_add, Nat.mul_assoc, Nat.mul_comm 10]
    omega
theorem dec_append (a b : List UInt8) : dec (a ++ b) = dec a * 10 ^ b.length + dec b := by
  unfold dec
  rw [List.foldl_append]
  exact dec_go b _
theorem dec_lt (l : List UInt8) (h : l.all dig = true) : dec l < 10 ^ l.length := by
  induction l with
  | nil => simp [dec]
  | cons c r ih =>
    rw [List.all_cons, Bool.and_eq_true] at h
    have hc : 48 ≤ c.toNat ∧ c.toNat ≤ 57 := by simpa [dig] using h.1
    have e := dec_append [c] r
    have e1 : dec [c] = c.toNat - 48 := by simp [dec]
    rw [List.singleton_append, e1] at e
    rw [e, List.length_cons, Nat.pow_succ]
    have := ih h.2
    have m : (c.toNat - 48) * 10 ^ r.length ≤ 9 * 10 ^ r.length := Nat.mul_le_mul_right _ (by omega)
    omega
theorem dg_len_le (n k : Nat) (h : n < 10 ^ k) : (Dg.dg n).length ≤ k := by
  induction k generalizing n with
  | zero =>
    have : n = 0 := by simpa using h
    rw [this, Dg.dg_zero]
    exact Nat.zero_le _
  | succ k ih =>
    by_cases z : n = 0
    · rw [z, Dg.dg_zero]
      exact Nat.zero_le _
    · rw [Dg.dg_pos z, List.length_cons]
      have := ih (n / 18446744073709551616) (by rw [Nat.pow_succ] at h; omega)
      omega
/-- A sign, and what stands behind it. -/
def cutSign (l : List UInt8) : Bool × List UInt8 := match l with
  | c :: r => if c.toNat = 45 then (true, r) else if c.toNat = 43 then (false, r) else (false, l)
  | [] => (false, [])
def digits (l : List UInt8) : Bool := !l.isEmpty && l.all dig
/-- The number that a text writes. -/
def parse (l : List UInt8) : Option Int := if digits (cutSign l).2 then some (if (cutSign l).1 then -(dec (cutSign l).2 : Int) else (dec (cutSign l).2 : Int)) else none
end Go.Proofs.YtnbpoplomdocjaaGreatDoor.Num

namespace Go.Proofs.YtnbpoplomdocjaaGreatDoor.Seg
set_option linter.unusedVariables false
open Go.Proofs.YtnbpoplomdocjaaGreatDoor.Ord

def cl (l : List UInt8) : Int := if (Num.parse l).isSome then 1 else 0
def vl (l : List UInt8) : Int := (Num.parse l).getD 0
def tx (l : List UInt8) : List UInt8 := if (Num.parse l).isSome then [] else l
/-- Segments of RubyGems: a number is greater than another one. -/
def segC (x y : List UInt8) : Int := if cI (cl x) (cl y) = 0 then (if cI (vl x) (vl y) = 0 then cS (tx x) (tx y) else cI (vl x) (vl y)) else cI (cl x) (cl y)
section
variable {x y : List UInt8} {p q : Int}
theorem segC_nn (h : Num.parse x = some p) (k : Num.parse y = some q) : segC x y = cI p q := by
  have e : cI (1 : Int) 1 = 0 := by decide
  have e2 : cS ([] : List UInt8) [] = 0 := by decide
  unfold segC cl vl tx
  rw [h, k]
  simp only [Option.isSome_some, if_true, Option.getD_some, e, e2]
  by_cases z : cI p q = 0
  · rw [if_pos z, z]
  · rw [if_neg z]
theorem segC_tt (h : Num.parse x = none) (k : Num.parse y = none) : segC x y = cS x y := by
  have e : cI (0 : Int) 0 = 0 := by decide
  unfold segC cl vl tx
  rw [h, k]
  simp [e]
theorem segC_nt (h : Num.parse x = some p) (k : Num.parse y = none) : segC x y = 1 := by
  have e : cI (1 : Int) 0 = 1 := by decide
  unfold segC cl vl tx
  rw [h, k]
  simp [e]
theorem segC_tn (h : Num.parse x = none) (k : Num.parse y = some q) : segC x y = -1 := by
  have e : cI (0 : Int) 1 = -1 := by decide
  unfold segC cl vl tx
  rw [h, k]
  simp [e]
end
end Go.Proofs.YtnbpoplomdocjaaGreatDoor.Seg

namespace Go.Proofs.YtnbpoplomdocjaaGreatDoor.Seg
set_option linter.unusedVariables false
open Go.Proofs.YtnbpoplomdocjaaGreatDoor.Ord Go.Proofs.YtnbpoplomdocjaaGreatDoor.Rpm

end Go.Proofs.YtnbpoplomdocjaaGreatDoor.Seg
