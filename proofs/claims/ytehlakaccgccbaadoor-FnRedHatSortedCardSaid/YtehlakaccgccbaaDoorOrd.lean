/- Orders by comparators: what answers -1, 0 or 1, is turned by turning its arguments, and chains. Plain Lean, no program. -/
import Derived.RowKit
namespace Go.Proofs.YtehlakaccgccbaaDoor.Ord
set_option linter.unusedVariables false

/-- A comparator of an order. -/
structure Cmp {α : Type} (c : α → α → Int) : Prop where
  rng : ∀ a b, c a b = -1 ∨ c a b = 0 ∨ c a b = 1
  flip : ∀ a b, c b a = - c a b
  tr : ∀ a b d, c a b ≤ 0 → c b d ≤ 0 → c a d ≤ 0 ∧ (c a d = 0 → c a b = 0 ∧ c b d = 0)

/-- The answers for a and b, b and c, a and c are those of an order. -/
def Chain (ab bc ac : Int) : Prop :=
  (ab ≤ 0 → bc ≤ 0 → ac ≤ 0 ∧ (ac = 0 ↔ ab = 0 ∧ bc = 0)) ∧ (0 ≤ ab → 0 ≤ bc → 0 ≤ ac ∧ (ac = 0 ↔ ab = 0 ∧ bc = 0))

namespace Cmp
variable {α β : Type} {c : α → α → Int}
theorem self (h : Cmp c) (a : α) : c a a = 0 := by have := h.flip a a; omega
theorem zero_tr (h : Cmp c) {a b d : α} (h1 : c a b = 0) (h2 : c b d = 0) : c a d = 0 := by
  have x := (h.tr a b d (by omega) (by omega)).1
  have y := (h.tr d b a (by rw [h.flip b d]; omega) (by rw [h.flip a b]; omega)).1
  rw [h.flip a d] at y
  omega
theorem chain (h : Cmp c) (a b d : α) : Chain (c a b) (c b d) (c a d) := by
  refine ⟨fun h1 h2 => ?_, fun h1 h2 => ?_⟩
  · have t := h.tr a b d h1 h2
    exact ⟨t.1, t.2, fun z => h.zero_tr z.1 z.2⟩
  · have t := h.tr d b a (by rw [h.flip b d]; omega) (by rw [h.flip a b]; omega)
    rw [h.flip a d, h.flip a b, h.flip b d] at t
    exact ⟨by omega, fun z => by have := t.2 (by omega); omega, fun z => h.zero_tr z.1 z.2⟩
/-- c1 tells; where it is 0, c2. -/
theorem then_ {c1 c2 : α → α → Int} (h1 : Cmp c1) (h2 : Cmp c2) : Cmp (fun a b => if c1 a b = 0 then c2 a b else c1 a b) where
  rng a b := by
    show (if c1 a b = 0 then c2 a b else c1 a b) = -1 ∨ (if c1 a b = 0 then c2 a b else c1 a b) = 0 ∨ (if c1 a b = 0 then c2 a b else c1 a b) = 1
    split
    · exact h2.rng a b
    · exact h1.rng a b
  flip a b := by
    show (if c1 b a = 0 then c2 b a else c1 b a) = - (if c1 a b = 0 then c2 a b else c1 a b)
    have e := h1.flip a b
    by_cases z : c1 a b = 0
    · rw [if_pos z, if_pos (by omega), h2.flip a b]
    · rw [if_neg z, if_neg (by omega), e]
  tr a b d := by
    show (if c1 a b = 0 then c2 a b else c1 a b) ≤ 0 → (if c1 b d = 0 then c2 b d else c1 b d) ≤ 0 → (if c1 a d = 0 then c2 a d else c1 a d) ≤ 0 ∧ ((if c1 a d = 0 then c2 a d else c1 a d) = 0 → (if c1 a b = 0 then c2 a b else c1 a b) = 0 ∧ (if c1 b d = 0 then c2 b d else c1 b d) = 0)
    intro x y
    by_cases z1 : c1 a b = 0
    · by_cases z2 : c1 b d = 0
      · have z3 := h1.zero_tr z1 z2
        rw [if_pos z1] at x ⊢
        rw [if_pos z2] at y ⊢
        rw [if_pos z3]
        exact h2.tr a b d x y
      · rw [if_neg z2] at y
        have t := h1.tr a b d (by omega) y
        have z3 : c1 a d ≠ 0 := fun z => z2 (t.2 z).2
        rw [if_neg z3]
        exact ⟨t.1, fun z => absurd z z3⟩
    · rw [if_neg z1] at x
      by_cases z2 : c1 b d = 0
      · have t := h1.tr a b d x (by omega)
        have z3 : c1 a d ≠ 0 := fun z => z1 (t.2 z).1
        rw [if_neg z3]
        exact ⟨t.1, fun z => absurd z z3⟩
      · rw [if_neg z2] at y
        have t := h1.tr a b d x y
        have z3 : c1 a d ≠ 0 := fun z => z1 (t.2 z).1
        rw [if_neg z3]
        exact ⟨t.1, fun z => absurd z z3⟩
/-- By a key. -/
theorem key (h : Cmp c) (f : β → α) : Cmp (fun a b => c (f a) (f b)) := ⟨fun a b => h.rng _ _, fun a b => h.flip _ _, fun a b d => h.tr _ _ _⟩
/-- The other way round. -/
theorem down (h : Cmp c) : Cmp (fun a b => c b a) where
  rng a b := h.rng b a
  flip a b := h.flip b a
  tr a b d x y := by
    have t := h.tr d b a y x
    exact ⟨t.1, fun z => ⟨(t.2 z).2, (t.2 z).1⟩⟩
theorem all0 : Cmp (fun _ _ : α => (0 : Int)) := ⟨fun _ _ => .inr (.inl rfl), fun _ _ => rfl, fun _ _ _ _ _ => ⟨Int.le_refl 0, fun _ => ⟨rfl, rfl⟩⟩⟩
end Cmp

/-- Whole numbers. -/
def cI (a b : Int) : Int := if a < b then -1 else if b < a then 1 else 0
theorem cI_cmp : Cmp cI where
  rng a b := by unfold cI; split; exact .inl rfl; split; exact .inr (.inr rfl); exact .inr (.inl rfl)
  flip a b := by unfold cI; repeat' split; all_goals omega
  tr a b d := by unfold cI; repeat' split; all_goals omega
theorem cI_zero {a b : Int} : cI a b = 0 ↔ a = b := by unfold cI; repeat' split; all_goals omega
theorem cI_neg {a b : Int} : cI a b = -1 ↔ a < b := by unfold cI; repeat' split; all_goals omega
theorem cI_pos {a b : Int} : cI a b = 1 ↔ b < a := by unfold cI; repeat' split; all_goals omega

/-- Lists, element by element; the shorter one first. -/
def lexL {α : Type} (c : α → α → Int) : List α → List α → Int
  | [], [] => 0
  | [], _ :: _ => -1
  | _ :: _, [] => 1
  | x :: xs, y :: ys => if c x y = 0 then lexL c xs ys else c x y
theorem lexL_cmp {α : Type} {c : α → α → Int} (h : Cmp c) : Cmp (lexL c) where
  rng a := by
    induction a with
    | nil =>
      intro b
      cases b with
      | nil => exact .inr (.inl rfl)
      | cons y ys => exact .inl rfl
    | cons x xs ih =>
      intro b
      cases b with
      | nil => exact .inr (.inr rfl)
      | cons y ys =>
        simp only [lexL]
        split
        · exact ih ys
        · exact h.rng x y
  flip a := by
    induction a with
    | nil =>
      intro b
      cases b with
      | nil => rfl
      | cons y ys => rfl
    | cons x xs ih =>
      intro b
      cases b with
      | nil => rfl
      | cons y ys =>
        simp only [lexL]
        have e := h.flip x y
        by_cases z : c x y = 0
        · rw [if_pos z, if_pos (by omega), ih ys]
        · rw [if_neg z, if_neg (by omega), e]
  tr a := by
    induction a with
    | nil =>
      intro b d
      cases b with
      | nil =>
        intro _ y
        exact ⟨y, fun z => ⟨rfl, z⟩⟩
      | cons y ys =>
        cases d with
        | nil => intro _ y; simp [lexL] at y
        | cons z zs => intro _ _; simp [lexL]
    | cons x xs ih =>
      intro b d
      cases b with
      | nil => intro y; simp [lexL] at y
      | cons y ys =>
        cases d with
        | nil => intro _ y; simp [lexL] at y
        | cons z zs =>
          simp only [lexL]
          intro p q
          by_cases z1 : c x y = 0
          · by_cases z2 : c y z = 0
            · have z3 := h.zero_tr z1 z2
              rw [if_pos z1] at p ⊢
              rw [if_pos z2] at q ⊢
              rw [if_pos z3]
              exact ih ys zs p q
            · rw [if_neg z2] at q
              have t := h.tr x y z (by omega) q
              have z3 : c x z ≠ 0 := fun z => z2 (t.2 z).2
              rw [if_neg z3]
              exact ⟨t.1, fun z => absurd z z3⟩
          · rw [if_neg z1] at p
            have q' : c y z ≤ 0 := by
              by_cases z2 : c y z = 0
              · omega
              · rwa [if_neg z2] at q
            have t := h.tr x y z p q'
            have z3 : c x z ≠ 0 := fun z => z1 (t.2 z).1
            rw [if_neg z3]
            exact ⟨t.1, fun z => absurd z z3⟩

/-- n elements of two lists, z behind their ends. -/
def padN {α : Type} (c : α → α → Int) (z : α) : Nat → List α → List α → Int
  | 0, _, _ => 0
  | n + 1, l, m => if c (l.headD z) (m.headD z) = 0 then padN c z n l.tail m.tail else c (l.headD z) (m.headD z)
theorem padN_cmp {α : Type} {c : α → α → Int} (h : Cmp c) (z : α) (n : Nat) : Cmp (padN c z n) := by
  induction n with
  | zero => exact Cmp.all0
  | succ n ih => exact Cmp.then_ (h.key (fun l : List α => l.headD z)) (ih.key List.tail)
theorem padN_nil {α : Type} {c : α → α → Int} (h : Cmp c) (z : α) (n : Nat) : padN c z n [] [] = 0 := (padN_cmp h z n).self []
/-- More elements than both have tell nothing more. -/
theorem padN_more {α : Type} {c : α → α → Int} (h : Cmp c) (z : α) (n : Nat) : ∀ (k : Nat) (l m : List α), l.length ≤ n → m.length ≤ n → padN c z (n + k) l m = padN c z n l m := by
  induction n with
  | zero =>
    intro k l m hl hm
    have el : l = [] := List.length_eq_zero_iff.1 (by omega)
    have em : m = [] := List.length_eq_zero_iff.1 (by omega)
    subst el
    subst em
    rw [padN_nil h, padN_nil h]
  | succ n ih =>
    intro k l m hl hm
    have e : n + 1 + k = (n + k) + 1 := by omega
    rw [e]
    simp only [padN]
    rw [ih k l.tail m.tail (by rw [List.length_tail]; omega) (by rw [List.length_tail]; omega)]
/-- Two lists, the shorter one filled up with z. -/
def padL {α : Type} (c : α → α → Int) (z : α) (l m : List α) : Int := padN c z (max l.length m.length) l m
theorem padL_at {α : Type} {c : α → α → Int} (h : Cmp c) (z : α) (l m : List α) (n : Nat) (hl : l.length ≤ n) (hm : m.length ≤ n) : padL c z l m = padN c z n l m := by
  unfold padL
  obtain ⟨k, rfl⟩ : ∃ k, n = max l.length m.length + k := ⟨n - max l.length m.length, by omega⟩
  exact (padN_more h z _ k l m (by omega) (by omega)).symm
theorem padL_cmp {α : Type} {c : α → α → Int} (h : Cmp c) (z : α) : Cmp (padL c z) where
  rng a b := (padN_cmp h z _).rng a b
  flip a b := by
    rw [padL_at h z a b (a.length + b.length) (by omega) (by omega), padL_at h z b a (a.length + b.length) (by omega) (by omega)]
    exact (padN_cmp h z _).flip a b
  tr a b d := by
    rw [padL_at h z a b (a.length + b.length + d.length) (by omega) (by omega), padL_at h z b d (a.length + b.length + d.length) (by omega) (by omega), padL_at h z a d (a.length + b.length + d.length) (by omega) (by omega)]
    exact (padN_cmp h z _).tr a b d

/-- Bytes of texts. -/
def cB (a b : UInt8) : Int := cI a.toNat b.toNat
theorem cB_cmp : Cmp cB := cI_cmp.key (fun a : UInt8 => (a.toNat : Int))
theorem cB_zero {a b : UInt8} : cB a b = 0 ↔ a = b := by
  unfold cB
  rw [cI_zero]
  constructor
  · intro h
    exact UInt8.toNat_inj.1 (by omega)
  · intro h
    rw [h]
def cS : List UInt8 → List UInt8 → Int := lexL cB
theorem cS_cmp : Cmp cS := lexL_cmp cB_cmp
theorem cS_zero : ∀ {a b : List UInt8}, cS a b = 0 ↔ a = b
  | [], [] => by simp [cS, lexL]
  | [], _ :: _ => by simp [cS, lexL]
  | _ :: _, [] => by simp [cS, lexL]
  | x :: xs, y :: ys => by
    have ih := @cS_zero xs ys
    unfold cS at ih ⊢
    simp only [lexL]
    by_cases z : cB x y = 0
    · rw [if_pos z, ih, cB_zero.1 z]
      simp
    · rw [if_neg z]
      constructor
      · intro h
        exact absurd h z
      · intro h
        injection h with h1 h2
        exact absurd (cB_zero.2 h1) z

end Go.Proofs.YtehlakaccgccbaaDoor.Ord
