/- Whole numbers in decimal, as the parser reads them: a sign or none, digits, one at least. Plain Lean, no program. -/
import Derived.Test.YtehlakaccgccbaaDoorDg
import Derived.Test.YtehlakaccgccbaaDoorRpm
namespace Go.Proofs.YtehlakaccgccbaaDoor.Num
set_option linter.unusedVariables false
open Go.Proofs.YtehlakaccgccbaaDoor.Rpm

/-- The number that digits write. -/
def dec (l : List UInt8) : Nat := l.foldl (fun a c => a * 10 + (c.toNat - 48)) 0
theorem dec_nil : dec [] = 0 := rfl
theorem dec_snoc (l : List UInt8) (c : UInt8) : dec (l ++ [c]) = dec l * 10 + (c.toNat - 48) := by
  unfold dec
  rw [List.foldl_append]
  rfl
theorem dec_go (l : List UInt8) : ∀ a, l.foldl (fun a c => a * 10 + (c.toNat - 48)) a = a * 10 ^ l.length + dec l := by
  induction l with
  | nil => intro a; simp [dec]
  | cons c r ih =>
    intro a
    unfold dec
    rw [List.foldl_cons, List.foldl_cons, ih, ih (0 * 10 + (c.toNat - 48)), List.length_cons, Nat.pow_succ, Nat.add_mul, Nat.add_mul]
    simp only [Nat.zero_mul, Nat.zero_add, Nat.mul_assoc, Nat.mul_comm 10]
    omega
theorem dec_append (a b : List UInt8) : dec (a ++ b) = dec a * 10 ^ b.length + dec b := by
  unfold dec
  rw [List.foldl_append]
  exact dec_go b _
theorem dec_lt (l : List UInt8) (h : l.all dig = true) : dec l < 10 ^ l.length := by
  induction l with
  | nil => simp [dec]
  | cons c r ih =>
    rw [List.all_cons, Bool.and_eq_true] at h
    have hc : 48 ≤ c.toNat ∧ c.toNat ≤ 57 := by simpa [dig] using h.1
    have e := dec_append [c] r
    have e1 : dec [c] = c.toNat - 48 := by simp [dec]
    rw [List.singleton_append, e1] at e
    rw [e, List.length_cons, Nat.pow_succ]
    have := ih h.2
    have m : (c.toNat - 48) * 10 ^ r.length ≤ 9 * 10 ^ r.length := Nat.mul_le_mul_right _ (by omega)
    omega
theorem dg_len_le (n k : Nat) (h : n < 10 ^ k) : (Dg.dg n).length ≤ k := by
  induction k generalizing n with
  | zero =>
    have : n = 0 := by simpa using h
    rw [this, Dg.dg_zero]
    exact Nat.zero_le _
  | succ k ih =>
    by_cases z : n = 0
    · rw [z, Dg.dg_zero]
      exact Nat.zero_le _
    · rw [Dg.dg_pos z, List.length_cons]
      have := ih (n / 18446744073709551616) (by rw [Nat.pow_succ] at h; omega)
      omega
/-- A sign, and what stands behind it. -/
def cutSign (l : List UInt8) : Bool × List UInt8 := match l with
  | c :: r => if c.toNat = 45 then (true, r) else if c.toNat = 43 then (false, r) else (false, l)
  | [] => (false, [])
def digits (l : List UInt8) : Bool := !l.isEmpty && l.all dig
/-- The number that a text writes. -/
def parse (l : List UInt8) : Option Int := if digits (cutSign l).2 then some (if (cutSign l).1 then -(dec (cutSign l).2 : Int) else (dec (cutSign l).2 : Int)) else none
end Go.Proofs.YtehlakaccgccbaaDoor.Num
