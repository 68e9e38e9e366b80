/- Whole numbers in words of 64 bits, the lowest first, and in bytes, the highest first. Plain Lean, no program. -/
import Derived.Test.YtehlakaccgccbaaDoorOrd
namespace Go.Proofs.YtehlakaccgccbaaDoor.Dg
set_option linter.unusedVariables false
open Go.Proofs.YtehlakaccgccbaaDoor.Ord

def val : List Nat → Nat
  | [] => 0
  | d :: r => d + 18446744073709551616 * val r
def Words (l : List Nat) : Prop := ∀ d ∈ l, d < 18446744073709551616
theorem Words.tail {d : Nat} {r : List Nat} (h : Words (d :: r)) : Words r := fun x hx => h x (List.mem_cons_of_mem _ hx)
theorem Words.head {d : Nat} {r : List Nat} (h : Words (d :: r)) : d < 18446744073709551616 := h d List.mem_cons_self
/-- The words of a number: the last one is not 0. -/
def dg (n : Nat) : List Nat := if h : n = 0 then [] else n % 18446744073709551616 :: dg (n / 18446744073709551616)
termination_by n
decreasing_by omega
theorem dg_zero : dg 0 = [] := by unfold dg; simp
theorem dg_pos {n : Nat} (h : n ≠ 0) : dg n = n % 18446744073709551616 :: dg (n / 18446744073709551616) := by
  conv => lhs; unfold dg
  rw [dif_neg h]
theorem dg_nil {n : Nat} (h : dg n = []) : n = 0 := by
  by_cases z : n = 0
  · exact z
  · rw [dg_pos z] at h
    exact absurd h (by simp)
theorem val_dg (n : Nat) : val (dg n) = n := by
  induction n using Nat.strongRecOn with
  | _ n ih =>
    by_cases h : n = 0
    · rw [h, dg_zero]
      rfl
    · rw [dg_pos h]
      simp only [val]
      rw [ih _ (by omega)]
      omega
theorem dg_words (n : Nat) : Words (dg n) := by
  induction n using Nat.strongRecOn with
  | _ n ih =>
    by_cases h : n = 0
    · rw [h, dg_zero]
      intro d hd
      simp at hd
    · rw [dg_pos h]
      intro d hd
      rcases List.mem_cons.1 hd with rfl | hd
      · omega
      · exact ih _ (by omega) d hd
theorem val_zero {l : List Nat} (h : ∀ d ∈ l, d = 0) : val l = 0 := by
  induction l with
  | nil => rfl
  | cons d r ih =>
    simp only [val]
    rw [ih (fun x hx => h x (List.mem_cons_of_mem _ hx)), h d List.mem_cons_self]
theorem val_append (a b : List Nat) : val (a ++ b) = val a + 18446744073709551616 ^ a.length * val b := by
  induction a with
  | nil => simp [val]
  | cons d r ih =>
    simp only [List.cons_append, val, ih, List.length_cons, Nat.pow_succ]
    rw [Nat.mul_add, Nat.mul_comm (18446744073709551616 ^ r.length) 18446744073709551616, Nat.mul_assoc]
    omega
theorem val_lt {l : List Nat} (h : Words l) : val l < 18446744073709551616 ^ l.length := by
  induction l with
  | nil => simp [val]
  | cons d r ih =>
    have a := h.head
    have b := ih h.tail
    simp only [val, List.length_cons, Nat.pow_succ]
    omega
/-- Words whose last one is not 0 are those of their number. -/
theorem dg_val {l : List Nat} (h : Words l) (hl : ∀ x, l.getLast? = some x → x ≠ 0) : dg (val l) = l := by
  induction l with
  | nil => exact dg_zero
  | cons d r ih =>
    have a := h.head
    have hr : dg (val r) = r := by
      refine ih h.tail ?_
      intro x hx
      refine hl x ?_
      cases r with
      | nil => simp at hx
      | cons y ys => rw [List.getLast?_cons_cons]; exact hx
    have nz : val (d :: r) ≠ 0 := by
      simp only [val]
      cases r with
      | nil =>
        have := hl d (by simp)
        simp only [val]
        omega
      | cons y ys =>
        have : val (y :: ys) ≠ 0 := by
          intro e
          rw [e, dg_zero] at hr
          exact absurd hr (by simp)
        omega
    rw [dg_pos nz]
    simp only [val]
    rw [show (d + 18446744073709551616 * val r) % 18446744073709551616 = d by omega, show (d + 18446744073709551616 * val r) / 18446744073709551616 = val r by omega, hr]
/-- What is left where the zeros at the end are taken away. -/
theorem dg_take {l : List Nat} (h : Words l) (i : Nat) (hi : i ≤ l.length) (hz : ∀ d ∈ l.drop i, d = 0) (hn : ∀ x, (l.take i).getLast? = some x → x ≠ 0) : l.take i = dg (val l) := by
  have e : val l = val (l.take i) := by
    conv => lhs; rw [← List.take_append_drop i l]
    rw [val_append, val_zero hz]
    omega
  rw [e, dg_val (fun d hd => h d (List.mem_of_mem_take hd)) hn]

/-! ### Comparing -/
/-- Words of one length, from the highest. -/
def cE : List Nat → List Nat → Int
  | x :: xs, y :: ys => if cE xs ys = 0 then cI x y else cE xs ys
  | _, _ => 0
theorem cE_val : ∀ (l m : List Nat), l.length = m.length → Words l → Words m → cE l m = cI (val l) (val m)
  | [], [], _, _, _ => by simp [cE, val, cI]
  | x :: xs, y :: ys, h, hl, hm => by
    have a := hl.head
    have b := hm.head
    have ih := cE_val xs ys (by simpa using h) hl.tail hm.tail
    simp only [cE, val]
    rw [ih]
    unfold cI
    repeat' split
    all_goals omega
  | [], _ :: _, h, _, _ => by simp at h
  | _ :: _, [], h, _, _ => by simp at h
theorem cE_snoc : ∀ (a b : List Nat) (x y : Nat), a.length = b.length → cE (a ++ [x]) (b ++ [y]) = if cI x y = 0 then cE a b else cI x y
  | [], [], x, y, _ => by
    simp only [List.nil_append, cE]
    by_cases h : cI (x : Int) (y : Int) = 0
    · rw [if_pos h, if_pos trivial, h]
    · rw [if_neg h, if_pos trivial]
  | u :: a, v :: b, x, y, h => by
    have ih := cE_snoc a b x y (by simpa using h)
    simp only [List.cons_append, cE]
    rw [ih]
    by_cases z : cI (x : Int) (y : Int) = 0
    · rw [if_pos z, if_pos z]
    · rw [if_neg z, if_neg z, if_neg z]
  | [], _ :: _, _, _, h => by simp at h
  | _ :: _, [], _, _, h => by simp at h
theorem dg_len_lt {a b : Nat} (h : (dg a).length < (dg b).length) : a < b := by
  have e : ∀ b : Nat, dg b ≠ [] → 18446744073709551616 ^ ((dg b).length - 1) ≤ b := by
    intro b
    induction b using Nat.strongRecOn with
    | _ b ih =>
      intro hb
      by_cases z : b = 0
      · rw [z, dg_zero] at hb
        exact absurd rfl hb
      · rw [dg_pos z]
        simp only [List.length_cons, Nat.add_sub_cancel]
        by_cases z2 : dg (b / 18446744073709551616) = []
        · rw [z2]
          simp
          omega
        · have := ih (b / 18446744073709551616) (by omega) z2
          have l : (dg (b / 18446744073709551616)).length = ((dg (b / 18446744073709551616)).length - 1) + 1 := by
            have : (dg (b / 18446744073709551616)).length ≠ 0 := fun e => z2 (List.length_eq_zero_iff.1 e)
            omega
          rw [l, Nat.pow_succ]
          omega
  have hb : dg b ≠ [] := by
    intro e
    rw [e] at h
    simp at h
  have h1 := val_lt (dg_words a)
  rw [val_dg] at h1
  have h2 := e b hb
  have h3 : 18446744073709551616 ^ (dg a).length ≤ 18446744073709551616 ^ ((dg b).length - 1) := Nat.pow_le_pow_right (by omega) (by omega)
  omega
def cW (l m : List Nat) : Int := if l.length = m.length then cE l m else cI l.length m.length
theorem cW_dg (a b : Nat) : cW (dg a) (dg b) = cI a b := by
  unfold cW
  by_cases h : (dg a).length = (dg b).length
  · rw [if_pos h, cE_val _ _ h (dg_words a) (dg_words b), val_dg, val_dg]
  · rw [if_neg h]
    rcases Nat.lt_or_gt_of_ne h with h | h
    · have := dg_len_lt h
      rw [cI_neg.2 (by omega), cI_neg.2 (by omega)]
    · have := dg_len_lt h
      rw [cI_pos.2 (by omega), cI_pos.2 (by omega)]

/-! ### n words -/
def dn : Nat → Nat → List Nat
  | 0, _ => []
  | n + 1, v => v % 18446744073709551616 :: dn n (v / 18446744073709551616)
theorem dn_len (n : Nat) : ∀ v, (dn n v).length = n := by
  induction n with
  | zero => intro v; rfl
  | succ n ih => intro v; simp [dn, ih]
theorem dn_words (n : Nat) : ∀ v, Words (dn n v) := by
  induction n with
  | zero => intro v d hd; simp [dn] at hd
  | succ n ih =>
    intro v d hd
    simp only [dn] at hd
    rcases List.mem_cons.1 hd with rfl | hd
    · omega
    · exact ih _ d hd
theorem dn_val (n : Nat) : ∀ v, v < 18446744073709551616 ^ n → val (dn n v) = v := by
  induction n with
  | zero =>
    intro v h
    simp at h
    simp [dn, val, h]
  | succ n ih =>
    intro v h
    rw [Nat.pow_succ] at h
    simp only [dn, val]
    rw [ih _ (by omega)]
    omega
theorem dn_get (n : Nat) : ∀ (v j : Nat) (h : j < n), (dn n v)[j]'(by rw [dn_len]; exact h) = v / 18446744073709551616 ^ j % 18446744073709551616 := by
  induction n with
  | zero => intro v j h; omega
  | succ n ih =>
    intro v j h
    cases j with
    | zero => simp [dn]
    | succ j =>
      have := ih (v / 18446744073709551616) j (by omega)
      simp only [dn, List.getElem_cons_succ]
      rw [this, Nat.div_div_eq_div_mul, Nat.pow_succ, Nat.mul_comm (18446744073709551616 ^ j)]

/-! ### Bytes -/
def be : List UInt8 → Nat
  | [] => 0
  | c :: r => c.toNat * 256 ^ r.length + be r
theorem be_append (a b : List UInt8) : be (a ++ b) = be a * 256 ^ b.length + be b := by
  induction a with
  | nil => simp [be]
  | cons c r ih =>
    simp only [List.cons_append, be, ih, List.length_append, Nat.pow_add, Nat.add_mul, Nat.mul_assoc]
    omega
theorem be_lt (l : List UInt8) : be l < 256 ^ l.length := by
  induction l with
  | nil => simp [be]
  | cons c r ih =>
    have := c.toNat_lt
    simp only [be, List.length_cons, Nat.pow_succ]
    have h : c.toNat * 256 ^ r.length ≤ 255 * 256 ^ r.length := Nat.mul_le_mul_right _ (by omega)
    omega
theorem be_div (a b : List UInt8) : be (a ++ b) / 256 ^ b.length = be a := by
  rw [be_append, Nat.mul_comm, Nat.mul_add_div (Nat.pow_pos (by omega)), Nat.div_eq_of_lt (be_lt b)]
  omega
theorem be_mod (a b : List UInt8) : be (a ++ b) % 256 ^ b.length = be b := by
  rw [be_append, Nat.mul_comm, Nat.mul_add_mod, Nat.mod_eq_of_lt (be_lt b)]
theorem pow_B (k : Nat) : 18446744073709551616 ^ k = 256 ^ (8 * k) := by
  rw [Nat.pow_mul]
/-- The k-th word of a number in bytes. -/
theorem be_word (l : List UInt8) (k : Nat) (h : 8 * k + 8 ≤ l.length) : be (((l.take (l.length - 8 * k)).drop (l.length - 8 * k - 8))) = be l / 18446744073709551616 ^ k % 18446744073709551616 := by
  have e1 := be_div (l.take (l.length - 8 * k)) (l.drop (l.length - 8 * k))
  rw [List.take_append_drop, List.length_drop, show l.length - (l.length - 8 * k) = 8 * k by omega] at e1
  rw [pow_B, e1]
  have e2 := be_mod ((l.take (l.length - 8 * k)).take (l.length - 8 * k - 8)) ((l.take (l.length - 8 * k)).drop (l.length - 8 * k - 8))
  rw [List.take_append_drop, List.length_drop, List.length_take, show min (l.length - 8 * k) l.length - (l.length - 8 * k - 8) = 8 by omega] at e2
  rw [← e2]
/-- What is left ahead of the k-th word. -/
theorem be_head (l : List UInt8) (k : Nat) (h : 8 * k ≤ l.length) : be (l.take (l.length - 8 * k)) = be l / 18446744073709551616 ^ k := by
  have e1 := be_div (l.take (l.length - 8 * k)) (l.drop (l.length - 8 * k))
  rw [List.take_append_drop, List.length_drop, show l.length - (l.length - 8 * k) = 8 * k by omega] at e1
  rw [pow_B, e1]
theorem dn_snoc (n : Nat) : ∀ v, dn (n + 1) v = dn n v ++ [v / 18446744073709551616 ^ n % 18446744073709551616] := by
  induction n with
  | zero => intro v; simp [dn]
  | succ n ih =>
    intro v
    rw [dn, ih, dn]
    rw [Nat.div_div_eq_div_mul, Nat.pow_succ, Nat.mul_comm (18446744073709551616 ^ n)]
    rfl
/-- The words of a number are the first ones of any words that make it. -/
theorem dg_prefix (n : Nat) : ∀ l : List Nat, l.length = n → Words l → dg (val l) = l.take (dg (val l)).length := by
  induction n with
  | zero =>
    intro l hl _
    have : l = [] := List.length_eq_zero_iff.1 hl
    rw [this]
    simp [val, dg_zero]
  | succ n ih =>
    intro l hl hw
    rcases List.eq_nil_or_concat l with h | ⟨a, x, h⟩
    · rw [h] at hl
      simp at hl
    · rw [List.concat_eq_append] at h
      subst h
      have ha : a.length = n := by simpa using hl
      have hwa : Words a := fun d hd => hw d (by simp [hd])
      by_cases hx : x = 0
      · have e : val (a ++ [x]) = val a := by
          rw [val_append, hx]
          simp [val]
        have i := ih a ha hwa
        have len : (dg (val a)).length ≤ a.length := by
          rw [i, List.length_take]
          omega
        rw [e, List.take_append_of_le_length len]
        exact i
      · have e := dg_val hw (by
          intro y hy
          rw [List.getLast?_append] at hy
          simp at hy
          rw [← hy]
          exact hx)
        rw [e, List.take_of_length_le (Nat.le_refl _)]
/-- A number with a sign. -/
def sg (neg : Bool) (n : Nat) : Int := if neg then -(n : Int) else n
end Go.Proofs.YtehlakaccgccbaaDoor.Dg
