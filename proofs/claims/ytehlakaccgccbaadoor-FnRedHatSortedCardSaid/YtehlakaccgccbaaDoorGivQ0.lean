/- Runes: digits, letters; builders beside an iterator. -/
import Derived.Test.YtehlakaccgccbaaDoorGivB
import Derived.Test.YtehlakaccgccbaaDoorGivC
import Derived.Test.YtehlakaccgccbaaDoorGivO
import Derived.Test.YtehlakaccgccbaaDoorRpm
namespace Go.Proofs.YtehlakaccgccbaaDoor.Giv
open Go.RowKit Go.Proofs.YtehlakaccgccbaaDoor.Ord
set_option linter.unusedSimpArgs false
set_option linter.unusedVariables false

def digI (n : Int) : Bool := decide (48 ≤ n ∧ n ≤ 57)
def letI_ (n : Int) : Bool := decide (65 ≤ n ∧ n ≤ 90 ∨ 97 ≤ n ∧ n ≤ 122)
theorem runeDig_calls (n : Int) (w : World) : Calls Tryd.prog 24 #[.int .i32 n] w fun e w' => e = .returned (.bool (digI n)) ∧ w = w' := by
  by_cases h1 : (48 : Int) ≤ n
  · by_cases h2 : n ≤ 57
    · have e : digI n = true := by unfold digI; simp; omega
      rw [e]
      clear e
      go_enter Tryd.func24, Tryd.ntmps24
      go_wp2
      go_ret
      exact ⟨by simp [h2], rfl⟩
    · have e : digI n = false := by unfold digI; simp; omega
      rw [e]
      clear e
      go_enter Tryd.func24, Tryd.ntmps24
      go_wp2
      go_ret
      exact ⟨by simp [h2], rfl⟩
  · have e : digI n = false := by unfold digI; simp; omega
    rw [e]
    clear e
    go_enter Tryd.func24, Tryd.ntmps24
    go_wp2
    go_ret
    exact ⟨by simp [h1], rfl⟩
theorem runeLet_calls (n : Int) (w : World) : Calls Tryd.prog 32 #[.int .i32 n] w fun e w' => e = .returned (.bool (letI_ n)) ∧ w = w' := by
  obtain ⟨r, hr⟩ : ∃ r, r = letI_ n := ⟨_, rfl⟩
  rw [← hr]
  have HR := Lib.hid hr
  clear hr
  by_cases h1 : (65 : Int) ≤ n <;> by_cases h2 : n ≤ (90 : Int) <;> by_cases h3 : (97 : Int) ≤ n <;> by_cases h4 : n ≤ (122 : Int)
  all_goals first
    | (exfalso; omega)
    | (go_enter Tryd.func32, Tryd.ntmps32
       go_wp2
       go_ret
       refine ⟨?_, rfl⟩
       have e := HR.out
       unfold letI_ at e
       simp [h1, h2, h3, h4] at e
       rw [e]
       first | rfl | simp [h1, h2, h3, h4])

theorem digI_yes (s : ByteArray) (n : Nat) (h : n < s.size) (hd : digI ((Utf8.decode s n).1 : Int) = true) : Utf8.decode s n = ((s[n]'h).toNat, 1) ∧ (s[n]'h).toNat < 128 ∧ Rpm.dig (s[n]'h) = true := by
  rcases dec_cases' s n h with ⟨ha, e⟩ | ⟨ha, hb, hc⟩
  · rw [e] at hd
    simp only [digI, decide_eq_true_eq] at hd
    exact ⟨e, ha, by simp only [Rpm.dig, decide_eq_true_eq]; omega⟩
  · simp only [digI, decide_eq_true_eq] at hd
    omega
theorem digI_no (s : ByteArray) (n : Nat) (h : n < s.size) (hd : digI ((Utf8.decode s n).1 : Int) = false) : Rpm.dig (s[n]'h) = false := by
  rcases dec_cases' s n h with ⟨ha, e⟩ | ⟨ha, hb, hc⟩
  · rw [e] at hd
    simp only [digI, decide_eq_false_iff_not] at hd
    simp only [Rpm.dig, decide_eq_false_iff_not]
    omega
  · simp only [Rpm.dig, decide_eq_false_iff_not]
    omega
theorem letI__yes (s : ByteArray) (n : Nat) (h : n < s.size) (hd : letI_ ((Utf8.decode s n).1 : Int) = true) : Utf8.decode s n = ((s[n]'h).toNat, 1) ∧ (s[n]'h).toNat < 128 ∧ Rpm.let_ (s[n]'h) = true := by
  rcases dec_cases' s n h with ⟨ha, e⟩ | ⟨ha, hb, hc⟩
  · rw [e] at hd
    simp only [letI_, decide_eq_true_eq] at hd
    exact ⟨e, ha, by simp only [Rpm.let_, decide_eq_true_eq]; omega⟩
  · simp only [letI_, decide_eq_true_eq] at hd
    omega
theorem letI__no (s : ByteArray) (n : Nat) (h : n < s.size) (hd : letI_ ((Utf8.decode s n).1 : Int) = false) : Rpm.let_ (s[n]'h) = false := by
  rcases dec_cases' s n h with ⟨ha, e⟩ | ⟨ha, hb, hc⟩
  · rw [e] at hd
    simp only [letI_, decide_eq_false_iff_not] at hd
    simp only [Rpm.let_, decide_eq_false_iff_not]
    omega
  · simp only [Rpm.let_, decide_eq_false_iff_not]
    omega

theorem rune_one (c : UInt8) (h : c.toNat < 128) : Lib.runeCells ((c.toNat : Nat) : Int) = Lib.byteCells [c] := by
  unfold Lib.runeCells
  rw [Lib.encodeRuneZ_one (by omega) (by omega)]
  rfl
theorem Fr.iterAt (w : World) (k : Nat) (s : ByteArray) (pos : Nat) : Fr (fun j => j = k) w (w.iterAt k s pos) :=
  ⟨rfl, rfl, rfl, by rw [Lib.iterAt_size]; exact Nat.le_refl _, fun j _ hj => Lib.iterAt_other w k j s pos hj⟩
theorem Fr.new (w : World) (o : Obj) : Fr (fun _ => False) w (w.alloc o) := (Fr.refl _ w).alloc o
end Go.Proofs.YtehlakaccgccbaaDoor.Giv
