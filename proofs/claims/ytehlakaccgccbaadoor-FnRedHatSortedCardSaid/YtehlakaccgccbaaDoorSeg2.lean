/- Numbers in digits are ordered as their values; texts without a sign ahead of digits are read as what they are. Plain Lean, no program. -/
import Derived.Test.YtehlakaccgccbaaDoorSeg
namespace Go.Proofs.YtehlakaccgccbaaDoor.Seg
set_option linter.unusedVariables false
open Go.Proofs.YtehlakaccgccbaaDoor.Ord Go.Proofs.YtehlakaccgccbaaDoor.Rpm

/-- A sign ahead of digits. -/
def signed (l : List UInt8) : Bool := match l with
  | c :: r => (decide (c.toNat = 45) || decide (c.toNat = 43)) && Num.digits r
  | [] => false
/-- A zero ahead of digits. -/
def zeroed (l : List UInt8) : Bool := match l with
  | c :: r => decide (c.toNat = 48) && !r.isEmpty && Num.digits (c :: r)
  | [] => false
theorem parse_plain {l : List UInt8} (h : signed l = false) : Num.parse l = if Num.digits l then some (Num.dec l : Int) else none := by
  unfold Num.parse Num.cutSign
  cases l with
  | nil => rfl
  | cons c r =>
    have sgn : ∀ (hc : c.toNat = 45 ∨ c.toNat = 43), Num.digits r = false ∧ Num.digits (c :: r) = false := by
      intro hc
      refine ⟨?_, ?_⟩
      · unfold signed at h
        rcases hc with hc | hc <;> simpa [hc] using h
      · unfold Num.digits
        rw [List.all_cons]
        have : dig c = false := by unfold dig; rw [decide_eq_false_iff_not]; omega
        rw [this]
        simp
    by_cases h1 : c.toNat = 45
    · obtain ⟨a, b⟩ := sgn (.inl h1)
      simp only [h1, if_true, a, b]
      rfl
    · by_cases h2 : c.toNat = 43
      · obtain ⟨a, b⟩ := sgn (.inr h2)
        simp [h2, a, b]
      · simp only [h1, if_false, h2]
        rfl
theorem strip_dec (l : List UInt8) : Num.dec (strip0 l) = Num.dec l := by
  induction l with
  | nil => rfl
  | cons c r ih =>
    unfold strip0
    by_cases h : c.toNat = 48
    · rw [List.dropWhile_cons_of_pos (by simpa using h)]
      have e := Num.dec_append [c] r
      have e1 : Num.dec [c] = 0 := by simp [Num.dec, h]
      rw [List.singleton_append, e1] at e
      rw [e, Nat.zero_mul, Nat.zero_add]
      exact ih
    · rw [List.dropWhile_cons_of_neg (by simpa using h)]
theorem strip_all {l : List UInt8} (h : l.all dig = true) : (strip0 l).all dig = true := by
  rw [List.all_eq_true] at h ⊢
  intro x hx
  exact h x ((List.dropWhile_sublist _).subset hx)
theorem strip_big {l : List UInt8} (h : l.all dig = true) (hne : strip0 l ≠ []) : 10 ^ ((strip0 l).length - 1) ≤ Num.dec (strip0 l) := by
  have ha := strip_all h
  cases hs : strip0 l with
  | nil => exact absurd hs hne
  | cons c r =>
    have hc : ¬ c.toNat = 48 := by
      have := List.head_dropWhile_not (p := fun c : UInt8 => c.toNat == 48) (l := l) (by unfold strip0 at hne; exact hne)
      have e : (l.dropWhile fun c : UInt8 => c.toNat == 48) = c :: r := hs
      simp only [e, List.head_cons] at this
      simpa using this
    rw [hs, List.all_cons, Bool.and_eq_true] at ha
    have hd : 48 ≤ c.toNat ∧ c.toNat ≤ 57 := by simpa [dig] using ha.1
    have e := Num.dec_append [c] r
    have e1 : Num.dec [c] = c.toNat - 48 := by simp [Num.dec]
    rw [List.singleton_append, e1] at e
    rw [e]
    simp only [List.length_cons, Nat.add_sub_cancel]
    have : 1 * 10 ^ r.length ≤ (c.toNat - 48) * 10 ^ r.length := Nat.mul_le_mul_right _ (by omega)
    omega
theorem same_len : ∀ (a b : List UInt8), a.length = b.length → a.all dig = true → b.all dig = true → cS a b = cI (Num.dec a) (Num.dec b)
  | [], [], _, _, _ => by simp [cS, lexL, Num.dec, cI]
  | x :: a, y :: b, h, ha, hb => by
    rw [List.all_cons, Bool.and_eq_true] at ha hb
    have hx : 48 ≤ x.toNat ∧ x.toNat ≤ 57 := by simpa [dig] using ha.1
    have hy : 48 ≤ y.toNat ∧ y.toNat ≤ 57 := by simpa [dig] using hb.1
    have hl : a.length = b.length := by simpa using h
    have ih := same_len a b hl ha.2 hb.2
    have u : cS (x :: a) (y :: b) = if cB x y = 0 then cS a b else cB x y := rfl
    have e1 := Num.dec_append [x] a
    have e2 := Num.dec_append [y] b
    have f1 : Num.dec [x] = x.toNat - 48 := by simp [Num.dec]
    have f2 : Num.dec [y] = y.toNat - 48 := by simp [Num.dec]
    rw [List.singleton_append, f1] at e1
    rw [List.singleton_append, f2, ← hl] at e2
    have la := Num.dec_lt a ha.2
    have lb := Num.dec_lt b hb.2
    rw [← hl] at lb
    rw [u, e1, e2, ih]
    generalize 10 ^ a.length = P at *
    by_cases hz : cB x y = 0
    · rw [if_pos hz]
      have := cB_zero.1 hz
      subst this
      unfold cI
      repeat' split
      all_goals omega
    · rw [if_neg hz]
      unfold cB at hz ⊢
      rcases Nat.lt_trichotomy x.toNat y.toNat with hlt | heq | hgt
      · have m : (x.toNat - 48 + 1) * P ≤ (y.toNat - 48) * P := Nat.mul_le_mul_right _ (by omega)
        rw [Nat.add_mul, Nat.one_mul] at m
        rw [cI_neg.2 (by omega), cI_neg.2 (by omega)]
      · exact absurd (cI_zero.2 (by omega)) hz
      · have m : (y.toNat - 48 + 1) * P ≤ (x.toNat - 48) * P := Nat.mul_le_mul_right _ (by omega)
        rw [Nat.add_mul, Nat.one_mul] at m
        rw [cI_pos.2 (by omega), cI_pos.2 (by omega)]
  | [], _ :: _, h, _, _ => by simp at h
  | _ :: _, [], h, _, _ => by simp at h
theorem num_less {a b : List UInt8} (ha : a.all dig = true) (hb : b.all dig = true) (h : (strip0 a).length < (strip0 b).length) : Num.dec a < Num.dec b := by
  have h1 := Num.dec_lt _ (strip_all ha)
  have h2 := strip_big hb (by intro e; rw [e] at h; simp at h)
  rw [strip_dec] at h1 h2
  have h3 : 10 ^ (strip0 a).length ≤ 10 ^ ((strip0 b).length - 1) := Nat.pow_le_pow_right (by decide) (by omega)
  omega
theorem numC_dec {a b : List UInt8} (ha : a.all dig = true) (hb : b.all dig = true) : numC a b = cI (Num.dec a) (Num.dec b) := by
  unfold numC
  rcases Nat.lt_trichotomy (strip0 a).length (strip0 b).length with h | h | h
  · have := num_less ha hb h
    rw [cI_neg.2 (by omega), if_neg (by decide), cI_neg.2 (by omega)]
  · rw [cI_zero.2 (by omega), if_pos rfl, same_len _ _ h (strip_all ha) (strip_all hb), strip_dec, strip_dec]
  · have := num_less hb ha h
    rw [cI_pos.2 (by omega), if_neg (by decide), cI_pos.2 (by omega)]
/-- Segments compared without reading numbers. -/
def segS (x y : List UInt8) : Int := if Num.digits x && Num.digits y then numC x y else if Num.digits x then 1 else if Num.digits y then -1 else cS x y
theorem segS_eq {x y : List UInt8} (hx : signed x = false) (hy : signed y = false) : segS x y = segC x y := by
  have px := parse_plain hx
  have py := parse_plain hy
  unfold segS
  cases dx : Num.digits x with
  | true =>
    rw [dx] at px
    have ax : x.all dig = true := by unfold Num.digits at dx; rw [Bool.and_eq_true] at dx; exact dx.2
    cases dy : Num.digits y with
    | true =>
      rw [dy] at py
      have ay : y.all dig = true := by unfold Num.digits at dy; rw [Bool.and_eq_true] at dy; exact dy.2
      rw [segC_nn px py]
      exact numC_dec ax ay
    | false =>
      rw [dy] at py
      rw [segC_nt px py]
      rfl
  | false =>
    rw [dx] at px
    cases dy : Num.digits y with
    | true =>
      rw [dy] at py
      rw [segC_tn px py]
      rfl
    | false =>
      rw [dy] at py
      rw [segC_tt px py]
      rfl
theorem padN_congr {α : Type} {c c' : α → α → Int} {z : α} {p : α → Prop} (hz : p z) (h : ∀ x y, p x → p y → c x y = c' x y) (n : Nat) : ∀ a b : List α, (∀ x ∈ a, p x) → (∀ x ∈ b, p x) → padN c z n a b = padN c' z n a b := by
  induction n with
  | zero => intro a b _ _; rfl
  | succ n ih =>
    intro a b ha hb
    have h1 : ∀ l : List α, (∀ x ∈ l, p x) → p (l.headD z) := by
      intro l hl
      cases l with
      | nil => exact hz
      | cons x r => exact hl x List.mem_cons_self
    simp only [padN]
    rw [h _ _ (h1 a ha) (h1 b hb), ih a.tail b.tail (fun x hx => ha x (List.mem_of_mem_tail hx)) (fun x hx => hb x (List.mem_of_mem_tail hx))]
/-- Identifiers compared without reading numbers. -/
def idS (x y : List UInt8) : Int := if Num.digits x && Num.digits y then numC x y else if Num.digits x then -1 else if Num.digits y then 1 else cS x y
theorem idS_eq {x y : List UInt8} (hx : signed x = false) (hy : signed y = false) : idS x y = idC x y := by
  have px := parse_plain hx
  have py := parse_plain hy
  unfold idS
  cases dx : Num.digits x with
  | true =>
    rw [dx] at px
    have ax : x.all dig = true := by unfold Num.digits at dx; rw [Bool.and_eq_true] at dx; exact dx.2
    cases dy : Num.digits y with
    | true =>
      rw [dy] at py
      have ay : y.all dig = true := by unfold Num.digits at dy; rw [Bool.and_eq_true] at dy; exact dy.2
      rw [idC_nn px py]
      exact numC_dec ax ay
    | false =>
      rw [dy] at py
      rw [idC_nt px py]
      rfl
  | false =>
    rw [dx] at px
    cases dy : Num.digits y with
    | true =>
      rw [dy] at py
      rw [idC_tn px py]
      rfl
    | false =>
      rw [dy] at py
      rw [idC_tt px py]
      rfl
theorem lexL_congr {α : Type} {c c' : α → α → Int} {p : α → Prop} (h : ∀ x y, p x → p y → c x y = c' x y) : ∀ a b : List α, (∀ x ∈ a, p x) → (∀ x ∈ b, p x) → lexL c a b = lexL c' a b
  | [], [], _, _ => rfl
  | [], _ :: _, _, _ => rfl
  | _ :: _, [], _, _ => rfl
  | x :: a, y :: b, ha, hb => by
    simp only [lexL]
    rw [h x y (ha x List.mem_cons_self) (hb y List.mem_cons_self), lexL_congr h a b (fun z hz => ha z (List.mem_cons_of_mem _ hz)) (fun z hz => hb z (List.mem_cons_of_mem _ hz))]
end Go.Proofs.YtehlakaccgccbaaDoor.Seg
