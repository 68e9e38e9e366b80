/- Whole numbers in bytes, the lowest first: ten times a number and a digit more. Plain Lean, no program. -/
import Derived.Test.YtmbgkdklgdkikaaDoorZA
namespace Go.Proofs.YtmbgkdklgdkikaaDoor.Lb
set_option linter.unusedVariables false

/-- The bytes of a number, the lowest first; the last one is not 0. -/
def lb (n : Nat) : List Nat := if h : n = 0 then [] else n % 256 :: lb (n / 256)
termination_by n
decreasing_by omega
theorem lb_zero : lb 0 = [] := by unfold lb; simp
theorem lb_pos {n : Nat} (h : n ≠ 0) : lb n = n % 256 :: lb (n / 256) := by
  conv => lhs; unfold lb
  rw [dif_neg h]
theorem lb_small (n : Nat) : ∀ d ∈ lb n, d < 256 := by
  induction n using Nat.strongRecOn with
  | _ n ih =>
    by_cases h : n = 0
    · rw [h, lb_zero]
      intro d hd
      simp at hd
    · rw [lb_pos h]
      intro d hd
      rcases List.mem_cons.1 hd with rfl | hd
      · omega
      · exact ih _ (by omega) d hd
/-- Ten times bytes and a carry. -/
def ma : Nat → List Nat → List Nat
  | c, [] => if c = 0 then [] else [c]
  | c, x :: r => (c + 10 * x) % 256 :: ma ((c + 10 * x) / 256) r
theorem ma_lb (n : Nat) : ∀ c, c ≤ 9 → ma c (lb n) = lb (10 * n + c) := by
  induction n using Nat.strongRecOn with
  | _ n ih =>
    intro c hc
    by_cases h : n = 0
    · subst h
      rw [lb_zero, ma]
      by_cases hz : c = 0
      · rw [if_pos hz, hz]
        exact lb_zero.symm
      · rw [if_neg hz, lb_pos (by omega), show (10 * 0 + c) % 256 = c by omega, show (10 * 0 + c) / 256 = 0 by omega, lb_zero]
    · rw [lb_pos h, ma, ih _ (by omega) _ (by omega)]
      rw [lb_pos (show 10 * n + c ≠ 0 by omega)]
      rw [show (c + 10 * (n % 256)) % 256 = (10 * n + c) % 256 by omega, show 10 * (n / 256) + (c + 10 * (n % 256)) / 256 = (10 * n + c) / 256 by omega]
theorem lb_len (n k : Nat) (h : n < 10 ^ k) : (lb n).length ≤ k := by
  induction k generalizing n with
  | zero =>
    have : n = 0 := by simpa using h
    rw [this, lb_zero]
    exact Nat.le_refl _
  | succ k ih =>
    by_cases z : n = 0
    · rw [z, lb_zero]
      exact Nat.zero_le _
    · rw [lb_pos z, List.length_cons]
      have := ih (n / 256) (by rw [Nat.pow_succ] at h; omega)
      omega
/-- The bytes of a number, the highest first. -/
def mag (n : Nat) : List UInt8 := (lb n).reverse.map UInt8.ofNat
theorem mag_zero : mag 0 = [] := by unfold mag; rw [lb_zero]; rfl
theorem mag_nil {n : Nat} (h : mag n = []) : n = 0 := by
  by_cases z : n = 0
  · exact z
  · unfold mag at h
    rw [lb_pos z] at h
    simp at h
def lv : List Nat → Nat
  | [] => 0
  | d :: r => d + 256 * lv r
theorem lv_lb (n : Nat) : lv (lb n) = n := by
  induction n using Nat.strongRecOn with
  | _ n ih =>
    by_cases h : n = 0
    · rw [h, lb_zero]
      rfl
    · rw [lb_pos h, lv, ih _ (by omega)]
      omega
theorem mag_inj {a b : Nat} (h : mag a = mag b) : a = b := by
  have e : ∀ n, (lb n).reverse = (mag n).map UInt8.toNat := by
    intro n
    unfold mag
    rw [List.map_map]
    conv => lhs; rw [← List.map_id (lb n).reverse]
    refine List.map_congr_left ?_
    intro d hd
    have := lb_small n d (List.mem_reverse.1 hd)
    simp only [id_eq, Function.comp_apply]
    rw [UInt8.toNat_ofNat']
    omega
  have := congrArg List.reverse ((e a).trans ((congrArg (List.map UInt8.toNat) h).trans (e b).symm))
  rw [List.reverse_reverse, List.reverse_reverse] at this
  have := congrArg lv this
  rwa [lv_lb, lv_lb] at this
end Go.Proofs.YtmbgkdklgdkikaaDoor.Lb
