/- Whole numbers in bytes, the lowest first: ten times a number and a digit more. Plain Lean, no program.
   Magnitudes compared: by length, then byte by byte. Plain Lean, no program.
   Bytes without a zero ahead are the bytes of the number that they tell. Plain Lean, no program.
   Texts cut at a byte; what stands behind a version's numbers compared. Plain Lean, no program.
   Texts in small letters: what stands behind the numbers has the same identifiers, in small letters. Plain Lean, no program.
   Versions like those of SemVer in plain Lean (bytes below 128): the numbers ahead, and what stands behind them. No program. -/
import Derived.Test.YtdpeadckejhloaaGreatDoorZA
import Derived.Lib.Case
namespace Go.Proofs.YtdpeadckejhloaaGreatDoor.Lb
set_option linter.unusedVariables false

/-- The bytes of a number, the lowest first; the last one is not 0. -/
def lb (n : Nat) : List Nat := if h : n = 0 then [] else n % 256 :: lb (n / 256)
termination_by n
decreasing_by omega
theorem lb_zero : lb 0 = [] := by unfold lb; simp
theorem lb_pos {n : Nat} (h : n ≠ 0) : lb n = n % 256 :: lb (n / 256) := by
  conv => lhs; unfold lb
  rw [dif_neg h]
/-- The bytes of a number, the highest first. -/
def mag (n : Nat) : List UInt8 := (lb n).reverse.map UInt8.ofNat
theorem mag_zero : mag 0 = [] := by unfold mag; rw [lb_zero]; rfl
theorem mag_nil {n : Nat} (h : mag n = []) : n = 0 := by
  by_cases z : n = 0
  · exact z
  · unfold mag at h
    rw [lb_pos z] at h
    simp at h
def lv : List Nat → Nat
  | [] => 0
  | d :: r => d + 256 * lv r
end Go.Proofs.YtdpeadckejhloaaGreatDoor.Lb

namespace Go.Proofs.YtdpeadckejhloaaGreatDoor.Lb
open Go.Proofs.YtdpeadckejhloaaGreatDoor.Ord
set_option linter.unusedVariables false

theorem mag_rec {n : Nat} (h : n ≠ 0) : mag n = mag (n / 256) ++ [UInt8.ofNat (n % 256)] := by
  conv => lhs; unfold mag
  rw [lb_pos h, List.reverse_cons, List.map_append]
  rfl
theorem mag_len0 {n : Nat} (h : n ≠ 0) : (mag n).length ≠ 0 := fun e => h (mag_nil (List.length_eq_zero_iff.1 e))
theorem mag_head (n : Nat) : ∀ c r, mag n = c :: r → c ≠ 0 := by
  induction n using Nat.strongRecOn with
  | _ n ih =>
    intro c r h
    have hn : n ≠ 0 := by
      rintro rfl
      rw [mag_zero] at h
      cases h
    rw [mag_rec hn] at h
    cases e : mag (n / 256) with
    | nil =>
      rw [e] at h
      have z := mag_nil e
      obtain ⟨rfl, _⟩ := List.cons.inj h
      intro hc
      have := congrArg UInt8.toNat hc
      rw [UInt8.toNat_ofNat'] at this
      simp at this
      omega
    | cons x s =>
      rw [e, List.cons_append] at h
      obtain ⟨rfl, _⟩ := List.cons.inj h
      exact ih _ (by omega) _ _ e
theorem cS_snoc : ∀ (l m : List UInt8) (x y : UInt8), l.length = m.length → cS (l ++ [x]) (m ++ [y]) = if cS l m = 0 then cB x y else cS l m
  | [], [], x, y, _ => by
    simp only [cS, lexL, List.nil_append, if_true]
    split
    · next h => exact h.symm
    · rfl
  | [], b :: m, x, y, h => by simp at h
  | a :: l, [], x, y, h => by simp at h
  | a :: l, b :: m, x, y, h => by
    have ih := cS_snoc l m x y (by simpa using h)
    have e1 : cS (a :: l ++ [x]) (b :: m ++ [y]) = if cB a b = 0 then cS (l ++ [x]) (m ++ [y]) else cB a b := rfl
    have e2 : cS (a :: l) (b :: m) = if cB a b = 0 then cS l m else cB a b := rfl
    rw [e1, e2]
    by_cases z : cB a b = 0
    · rw [if_pos z, if_pos z]
      exact ih
    · rw [if_neg z, if_neg z, if_neg z]
theorem cB_of (p q : Nat) (hp : p < 256) (hq : q < 256) : cB (UInt8.ofNat p) (UInt8.ofNat q) = cI p q := by
  unfold cB
  rw [UInt8.toNat_ofNat', UInt8.toNat_ofNat', Nat.mod_eq_of_lt (by omega), Nat.mod_eq_of_lt (by omega)]
def magC (a b : Nat) : Int := if (mag a).length = (mag b).length then cS (mag a) (mag b) else cI (mag a).length (mag b).length
theorem magC_eq (a : Nat) : ∀ b : Nat, magC a b = cI a b := by
  induction a using Nat.strongRecOn with
  | _ a ih =>
    intro b
    by_cases ha : a = 0
    · subst ha
      by_cases hb : b = 0
      · subst hb
        unfold magC
        rw [if_pos rfl, mag_zero]
        rfl
      · have l := mag_len0 hb
        unfold magC
        rw [mag_zero, List.length_nil, if_neg (by omega)]
        generalize (mag b).length = n at *
        unfold cI
        rw [if_pos (by omega), if_pos (by omega)]
    · by_cases hb : b = 0
      · subst hb
        have l := mag_len0 ha
        unfold magC
        rw [mag_zero, List.length_nil, if_neg (by omega)]
        generalize (mag a).length = n at *
        unfold cI
        rw [if_neg (by omega), if_pos (by omega), if_neg (by omega), if_pos (by omega)]
      · have h := ih (a / 256) (by omega) (b / 256)
        unfold magC at h ⊢
        rw [mag_rec ha, mag_rec hb, List.length_append, List.length_append, List.length_singleton, List.length_singleton]
        by_cases e : (mag (a / 256)).length = (mag (b / 256)).length
        · rw [if_pos e] at h
          rw [if_pos (by omega), cS_snoc _ _ _ _ e, h, cB_of _ _ (by omega) (by omega)]
          clear h ih e
          unfold cI
          repeat' split
          all_goals omega
        · rw [if_neg e] at h
          rw [if_neg (by omega)]
          have e2 : cI ((a / 256 : Nat) : Int) ((b / 256 : Nat) : Int) ≠ 0 := by
            rw [← h, Ne, cI_zero]
            omega
          generalize (mag (a / 256)).length = p at *
          generalize (mag (b / 256)).length = q at *
          have e1 : cI ((p + 1 : Nat) : Int) ((q + 1 : Nat) : Int) = cI (p : Int) (q : Int) := by
            clear h e2 ih
            unfold cI
            repeat' split
            all_goals omega
          rw [e1, h]
          clear h e1 ih e
          revert e2
          unfold cI
          repeat' split
          all_goals omega
end Go.Proofs.YtdpeadckejhloaaGreatDoor.Lb

namespace Go.Proofs.YtdpeadckejhloaaGreatDoor.Lb
set_option linter.unusedVariables false
theorem mag_be (n : Nat) : ∀ l : List UInt8, l.length = n → (∀ c r, l = c :: r → c ≠ 0) → mag (Dg.be l) = l := by
  induction n with
  | zero =>
    intro l hl _
    rw [List.length_eq_zero_iff.1 hl]
    exact mag_zero
  | succ n ih =>
    intro l hl hz
    obtain ⟨p, x, rfl⟩ : ∃ p x, l = p ++ [x] := ⟨l.dropLast, l.getLast (by intro e; rw [e] at hl; simp at hl), (List.dropLast_concat_getLast _).symm⟩
    have hp : p.length = n := by simpa using hl
    have e : Dg.be (p ++ [x]) = Dg.be p * 256 + x.toNat := by rw [Dg.be_append]; simp [Dg.be]
    have hx := x.toNat_lt
    have hne : Dg.be (p ++ [x]) ≠ 0 := by
      cases p with
      | nil =>
        have h := hz x [] rfl
        intro h0
        rw [e] at h0
        simp [Dg.be] at h0
        exact h (UInt8.toNat_inj.1 h0)
      | cons c r =>
        have h := ih (c :: r) hp (fun a b hab => by cases hab; exact hz c (r ++ [x]) rfl)
        intro h0
        rw [e] at h0
        have : Dg.be (c :: r) = 0 := by omega
        rw [this, mag_zero] at h
        cases h
    rw [mag_rec hne, e, show (Dg.be p * 256 + x.toNat) / 256 = Dg.be p by omega, show (Dg.be p * 256 + x.toNat) % 256 = x.toNat by omega]
    rw [ih p hp (fun c r hcr => hz c (r ++ [x]) (by rw [hcr]; rfl))]
    simp
end Go.Proofs.YtdpeadckejhloaaGreatDoor.Lb

namespace Go.Proofs.YtdpeadckejhloaaGreatDoor.Cut
set_option linter.unusedVariables false
open Go.Proofs.YtdpeadckejhloaaGreatDoor.Ord Go.Proofs.YtdpeadckejhloaaGreatDoor.Rpm

/-- A text cut at each c. -/
def cutAt (c : UInt8) : List UInt8 → List (List UInt8)
  | [] => [[]]
  | x :: r => if x = c then [] :: cutAt c r else (match cutAt c r with | h :: t => (x :: h) :: t | [] => [[x]])
theorem cutAt_ne (c : UInt8) (l : List UInt8) : cutAt c l ≠ [] := by
  cases l with
  | nil => simp [cutAt]
  | cons x r =>
    unfold cutAt
    split
    · simp
    · split <;> simp
/-- Up to the first c, and behind it. -/
def upTo (c : UInt8) (l : List UInt8) : List UInt8 := l.takeWhile (fun x => !(x == c))
theorem cutAt_no (c : UInt8) : ∀ l : List UInt8, (l.any (fun x => x == c)) = false → cutAt c l = [l] ∧ upTo c l = l
  | [], _ => ⟨rfl, rfl⟩
  | x :: r, h => by
    rw [List.any_cons, Bool.or_eq_false_iff] at h
    obtain ⟨e1, e2⟩ := cutAt_no c r h.2
    have hx : ¬ x = c := by simpa using h.1
    refine ⟨?_, ?_⟩
    · unfold cutAt
      rw [if_neg hx, e1]
    · unfold upTo at e2 ⊢
      rw [List.takeWhile_cons_of_pos (by simp [hx]), e2]
theorem cutAt_yes (c : UInt8) : ∀ l : List UInt8, (l.any (fun x => x == c)) = true → cutAt c l = upTo c l :: cutAt c (l.drop ((upTo c l).length + 1)) ∧ (upTo c l).length < l.length ∧ (l.take (upTo c l).length) = upTo c l
  | [], h => by simp at h
  | x :: r, h => by
    by_cases hx : x = c
    · have e : upTo c (x :: r) = [] := by
        unfold upTo
        rw [List.takeWhile_cons_of_neg (by simp [hx])]
      rw [e]
      refine ⟨?_, by simp, rfl⟩
      conv => lhs; unfold cutAt
      rw [if_pos hx]
      rfl
    · rw [List.any_cons] at h
      have hr : (r.any fun x => x == c) = true := by simpa [hx] using h
      obtain ⟨e1, e2, e3⟩ := cutAt_yes c r hr
      have e : upTo c (x :: r) = x :: upTo c r := by
        unfold upTo
        rw [List.takeWhile_cons_of_pos (by simp [hx])]
      rw [e]
      refine ⟨?_, by simpa using e2, by rw [List.length_cons, List.take_succ_cons, e3]⟩
      conv => lhs; unfold cutAt
      rw [if_neg hx, e1]
      rfl
theorem cutAt_sizes (c : UInt8) : ∀ l : List UInt8, (cutAt c l).length ≤ l.length + 1 ∧ ∀ x ∈ cutAt c l, x.length ≤ l.length
  | [] => ⟨by simp [cutAt], by simp [cutAt]⟩
  | x :: r => by
    obtain ⟨h1, h2⟩ := cutAt_sizes c r
    unfold cutAt
    by_cases hx : x = c
    · rw [if_pos hx]
      refine ⟨by simp; omega, ?_⟩
      intro y hy
      rcases List.mem_cons.1 hy with rfl | hy
      · simp
      · have := h2 y hy
        simp
        omega
    · rw [if_neg hx]
      split
      · rename_i a t he
        rw [he] at h1 h2
        refine ⟨by simp at h1 ⊢; omega, ?_⟩
        intro y hy
        rcases List.mem_cons.1 hy with rfl | hy
        · have := h2 a List.mem_cons_self
          simp
          omega
        · have := h2 y (List.mem_cons_of_mem _ hy)
          simp
          omega
      · exact ⟨by simp, by intro y hy; rw [List.mem_singleton.1 hy]; simp⟩
/-- A hyphen ahead is dropped. -/
def trim (c : UInt8) (l : List UInt8) : List UInt8 := match l with
  | x :: r => if x = c then r else l
  | [] => []
theorem trim_len (c : UInt8) (l : List UInt8) : (trim c l).length ≤ l.length := by
  unfold trim
  cases l with
  | nil => simp
  | cons x r =>
    simp only
    split <;> simp
/-- What counts of what stands behind the numbers. -/
def core (l : List UInt8) : List UInt8 := trim 45 (upTo 43 l)
def em (l : List UInt8) : Int := if l = [] then 1 else 0
/-- What stands behind the numbers compared. -/
def buildC (a b : List UInt8) : Int := if cI (em (core a)) (em (core b)) = 0 then lexL Seg.idC (cutAt 46 (core a)) (cutAt 46 (core b)) else cI (em (core a)) (em (core b))
theorem buildC_cmp : Cmp buildC := (cI_cmp.key (fun l => em (core l))).then_ ((lexL_cmp Seg.idC_cmp).key (fun l => cutAt 46 (core l)))
theorem core_len (l : List UInt8) : (core l).length ≤ l.length := by
  have a := trim_len 45 (upTo 43 l)
  have b : (upTo 43 l).length ≤ l.length := List.Sublist.length_le (List.takeWhile_sublist _)
  unfold core
  omega
end Go.Proofs.YtdpeadckejhloaaGreatDoor.Cut

namespace Go.Proofs.YtdpeadckejhloaaGreatDoor.Low
set_option linter.unusedVariables false
open Go.Proofs.YtdpeadckejhloaaGreatDoor.Rpm Go.Proofs.YtdpeadckejhloaaGreatDoor.Cut
theorem up_nat {c : UInt8} (h : Lib.isUpperB c = true) : 65 ≤ c.toNat ∧ c.toNat ≤ 90 := by
  rw [Lib.isUpperB_int, Bool.and_eq_true] at h
  have h1 := of_decide_eq_true h.1
  have h2 := of_decide_eq_true h.2
  omega
theorem low_up {c : UInt8} (h : Lib.isUpperB c = true) : (Lib.lowerB c).toNat = c.toNat + 32 := by
  have := Lib.lowerB_int c h
  omega
theorem low_is (c x : UInt8) (hx : x.toNat < 65) : (Lib.lowerB c = x) ↔ (c = x) := by
  cases h : Lib.isUpperB c with
  | false => rw [Lib.lowerB_of_not c h]
  | true =>
    have h1 := up_nat h
    have h2 := low_up h
    constructor
    · intro e
      rw [e] at h2
      omega
    · intro e
      rw [e] at h1
      omega
theorem low_beq (c x : UInt8) (hx : x.toNat < 65) : (Lib.lowerB c == x) = (c == x) := by
  rw [Bool.eq_iff_iff, beq_iff_eq, beq_iff_eq]
  exact low_is c x hx
theorem dig_low (c : UInt8) : dig (Lib.lowerB c) = dig c := by
  cases h : Lib.isUpperB c with
  | false => rw [Lib.lowerB_of_not c h]
  | true =>
    have h1 := up_nat h
    have h2 := low_up h
    unfold dig
    rw [decide_eq_false (by omega), decide_eq_false (by omega)]
theorem upTo_low (x : UInt8) (hx : x.toNat < 65) (l : List UInt8) : upTo x (l.map Lib.lowerB) = (upTo x l).map Lib.lowerB := by
  unfold upTo
  rw [List.takeWhile_map]
  congr 2
  funext c
  simp only [Function.comp]
  rw [low_beq c x hx]
theorem trim_low (x : UInt8) (hx : x.toNat < 65) (l : List UInt8) : trim x (l.map Lib.lowerB) = (trim x l).map Lib.lowerB := by
  cases l with
  | nil => rfl
  | cons c r =>
    unfold trim
    simp only [List.map_cons]
    by_cases h : c = x
    · rw [if_pos h, if_pos ((low_is c x hx).2 h)]
    · rw [if_neg h, if_neg (fun e => h ((low_is c x hx).1 e)), List.map_cons]
theorem core_low (l : List UInt8) : core (l.map Lib.lowerB) = (core l).map Lib.lowerB := by
  unfold core
  rw [upTo_low 43 (by decide), trim_low 45 (by decide)]
theorem cutAt_low (x : UInt8) (hx : x.toNat < 65) : ∀ l : List UInt8, cutAt x (l.map Lib.lowerB) = (cutAt x l).map (List.map Lib.lowerB)
  | [] => rfl
  | c :: r => by
    have ih := cutAt_low x hx r
    rw [List.map_cons]
    unfold cutAt
    by_cases h : c = x
    · rw [if_pos h, if_pos ((low_is c x hx).2 h), ih]
      rfl
    · rw [if_neg h, if_neg (fun e => h ((low_is c x hx).1 e)), ih]
      cases hc : cutAt x r with
      | nil => rfl
      | cons a b => rfl
theorem digits_low (l : List UInt8) : Num.digits (l.map Lib.lowerB) = Num.digits l := by
  unfold Num.digits
  rw [List.isEmpty_map, List.all_map]
  congr 2
  funext c
  exact dig_low c
theorem signed_low (l : List UInt8) : Seg.signed (l.map Lib.lowerB) = Seg.signed l := by
  cases l with
  | nil => rfl
  | cons c r =>
    unfold Seg.signed
    simp only [List.map_cons, digits_low]
    have e : ∀ n : Nat, n < 65 → decide ((Lib.lowerB c).toNat = n) = decide (c.toNat = n) := by
      intro n hn
      cases h : Lib.isUpperB c with
      | false => rw [Lib.lowerB_of_not c h]
      | true =>
        have h1 := up_nat h
        have h2 := low_up h
        rw [decide_eq_false (by omega), decide_eq_false (by omega)]
    rw [e 45 (by omega), e 43 (by omega)]
end Go.Proofs.YtdpeadckejhloaaGreatDoor.Low

namespace Go.Proofs.YtdpeadckejhloaaGreatDoor.Slk
open Go.Proofs.YtdpeadckejhloaaGreatDoor.Rpm
set_option linter.unusedVariables false
/-- A number that is open is closed. -/
def fl (acc : List Int) (cur : List UInt8) : List Int := if cur = [] then acc else acc ++ [(Num.dec cur : Int)]
def slk : List Int → List UInt8 → List UInt8 → List Int × List UInt8
  | acc, cur, [] => (fl acc cur, [])
  | acc, cur, c :: r => if dig c = true then slk acc (cur ++ [c]) r else if c = 46 then slk (fl acc cur) [] r else (fl acc cur, c :: r)
/-- A v ahead. -/
def lead (l : List UInt8) : Bool := l.head? == some 118
def body (l : List UInt8) : List UInt8 := if lead l = true then l.tail else l
/-- The numbers, and what stands behind them. -/
def parse (l : List UInt8) : List Int × List UInt8 := slk [] [] (body l)
end Go.Proofs.YtdpeadckejhloaaGreatDoor.Slk
