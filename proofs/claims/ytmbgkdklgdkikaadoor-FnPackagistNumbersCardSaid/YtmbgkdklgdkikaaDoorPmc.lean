/- Magnitudes compared: by length, then byte by byte. Plain Lean, no program. -/
import Derived.Test.YtmbgkdklgdkikaaDoorLb
namespace Go.Proofs.YtmbgkdklgdkikaaDoor.Lb
open Go.Proofs.YtmbgkdklgdkikaaDoor.Ord
set_option linter.unusedVariables false

theorem mag_rec {n : Nat} (h : n ≠ 0) : mag n = mag (n / 256) ++ [UInt8.ofNat (n % 256)] := by
  conv => lhs; unfold mag
  rw [lb_pos h, List.reverse_cons, List.map_append]
  rfl
theorem mag_len0 {n : Nat} (h : n ≠ 0) : (mag n).length ≠ 0 := fun e => h (mag_nil (List.length_eq_zero_iff.1 e))
theorem mag_head (n : Nat) : ∀ c r, mag n = c :: r → c ≠ 0 := by
  induction n using Nat.strongRecOn with
  | _ n ih =>
    intro c r h
    have hn : n ≠ 0 := by
      rintro rfl
      rw [mag_zero] at h
      cases h
    rw [mag_rec hn] at h
    cases e : mag (n / 256) with
    | nil =>
      rw [e] at h
      have z := mag_nil e
      obtain ⟨rfl, _⟩ := List.cons.inj h
      intro hc
      have := congrArg UInt8.toNat hc
      rw [UInt8.toNat_ofNat'] at this
      simp at this
      omega
    | cons x s =>
      rw [e, List.cons_append] at h
      obtain ⟨rfl, _⟩ := List.cons.inj h
      exact ih _ (by omega) _ _ e
theorem cS_snoc : ∀ (l m : List UInt8) (x y : UInt8), l.length = m.length → cS (l ++ [x]) (m ++ [y]) = if cS l m = 0 then cB x y else cS l m
  | [], [], x, y, _ => by
    simp only [cS, lexL, List.nil_append, if_true]
    split
    · next h => exact h.symm
    · rfl
  | [], b :: m, x, y, h => by simp at h
  | a :: l, [], x, y, h => by simp at h
  | a :: l, b :: m, x, y, h => by
    have ih := cS_snoc l m x y (by simpa using h)
    have e1 : cS (a :: l ++ [x]) (b :: m ++ [y]) = if cB a b = 0 then cS (l ++ [x]) (m ++ [y]) else cB a b := rfl
    have e2 : cS (a :: l) (b :: m) = if cB a b = 0 then cS l m else cB a b := rfl
    rw [e1, e2]
    by_cases z : cB a b = 0
    · rw [if_pos z, if_pos z]
      exact ih
    · rw [if_neg z, if_neg z, if_neg z]
theorem cB_of (p q : Nat) (hp : p < 256) (hq : q < 256) : cB (UInt8.ofNat p) (UInt8.ofNat q) = cI p q := by
  unfold cB
  rw [UInt8.toNat_ofNat', UInt8.toNat_ofNat', Nat.mod_eq_of_lt (by omega), Nat.mod_eq_of_lt (by omega)]
def magC (a b : Nat) : Int := if (mag a).length = (mag b).length then cS (mag a) (mag b) else cI (mag a).length (mag b).length
theorem magC_eq (a : Nat) : ∀ b : Nat, magC a b = cI a b := by
  induction a using Nat.strongRecOn with
  | _ a ih =>
    intro b
    by_cases ha : a = 0
    · subst ha
      by_cases hb : b = 0
      · subst hb
        unfold magC
        rw [if_pos rfl, mag_zero]
        rfl
      · have l := mag_len0 hb
        unfold magC
        rw [mag_zero, List.length_nil, if_neg (by omega)]
        generalize (mag b).length = n at *
        unfold cI
        rw [if_pos (by omega), if_pos (by omega)]
    · by_cases hb : b = 0
      · subst hb
        have l := mag_len0 ha
        unfold magC
        rw [mag_zero, List.length_nil, if_neg (by omega)]
        generalize (mag a).length = n at *
        unfold cI
        rw [if_neg (by omega), if_pos (by omega), if_neg (by omega), if_pos (by omega)]
      · have h := ih (a / 256) (by omega) (b / 256)
        unfold magC at h ⊢
        rw [mag_rec ha, mag_rec hb, List.length_append, List.length_append, List.length_singleton, List.length_singleton]
        by_cases e : (mag (a / 256)).length = (mag (b / 256)).length
        · rw [if_pos e] at h
          rw [if_pos (by omega), cS_snoc _ _ _ _ e, h, cB_of _ _ (by omega) (by omega)]
          clear h ih e
          unfold cI
          repeat' split
          all_goals omega
        · rw [if_neg e] at h
          rw [if_neg (by omega)]
          have e2 : cI ((a / 256 : Nat) : Int) ((b / 256 : Nat) : Int) ≠ 0 := by
            rw [← h, Ne, cI_zero]
            omega
          generalize (mag (a / 256)).length = p at *
          generalize (mag (b / 256)).length = q at *
          have e1 : cI ((p + 1 : Nat) : Int) ((q + 1 : Nat) : Int) = cI (p : Int) (q : Int) := by
            clear h e2 ih
            unfold cI
            repeat' split
            all_goals omega
          rw [e1, h]
          clear h e1 ih e
          revert e2
          unfold cI
          repeat' split
          all_goals omega
end Go.Proofs.YtmbgkdklgdkikaaDoor.Lb
