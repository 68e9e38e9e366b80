/- Debian's order of parts in plain Lean: by what stands ahead of digits, then by the digits' number, again and again. No program. -/
import Derived.Test.YtchnlfkdgajodaaDoorZA
namespace Go.Proofs.YtchnlfkdgajodaaDoor.Deb
open Go.Proofs.YtchnlfkdgajodaaDoor.Ord Go.Proofs.YtchnlfkdgajodaaDoor.Rpm
set_option linter.unusedVariables false

/-- Where a byte of what stands ahead of digits stands: a tilde, the end, letters, all else. -/
def isLet (c : UInt8) : Bool := decide (65 ≤ c.toNat ∧ c.toNat ≤ 90 ∨ 97 ≤ c.toNat ∧ c.toNat ≤ 122)
def wtB (c : UInt8) : Int := if c.toNat = 126 then -1 else if isLet c then (c.toNat : Int) else (c.toNat : Int) + 256
def wt : Option UInt8 → Int
  | none => 0
  | some c => wtB c
def wC (x y : Option UInt8) : Int := cI (wt x) (wt y)
theorem wC_cmp : Cmp wC := cI_cmp.key wt
theorem wt_key (c : UInt8) : (wtB c = -1 ∧ c.toNat = 126) ∨ (wtB c = c.toNat ∧ 65 ≤ c.toNat ∧ c.toNat ≤ 122) ∨ (wtB c = (c.toNat : Int) + 256) := by
  unfold wtB isLet
  by_cases h1 : c.toNat = 126
  · rw [if_pos h1]
    exact .inl ⟨rfl, h1⟩
  · rw [if_neg h1]
    by_cases h2 : 65 ≤ c.toNat ∧ c.toNat ≤ 90 ∨ 97 ≤ c.toNat ∧ c.toNat ≤ 122
    · rw [if_pos (decide_eq_true h2)]
      exact .inr (.inl ⟨rfl, by omega, by omega⟩)
    · rw [if_neg (by simpa using h2)]
      exact .inr (.inr rfl)
theorem wtB_ne (c : UInt8) : wtB c ≠ 0 := by
  have := wt_key c
  omega
/-- The weights tell the bytes. -/
theorem wt_inj {x y : Option UInt8} (h : wt x = wt y) : x = y := by
  cases x with
  | none =>
    cases y with
    | none => rfl
    | some d => exact absurd h.symm (wtB_ne d)
  | some c =>
    cases y with
    | none => exact absurd h (wtB_ne c)
    | some d =>
      have a := wt_key c
      have b := wt_key d
      have h : wtB c = wtB d := h
      have : c.toNat = d.toNat := by omega
      rw [UInt8.toNat_inj.1 this]
/-- What stands ahead of digits, compared. -/
def ndC (p q : List UInt8) : Int := padL wC none (p.map some) (q.map some)
theorem ndC_cmp : Cmp ndC := (padL_cmp wC_cmp none).key (List.map some)
/-- A stretch: what stands ahead of digits, and the digits. -/
def cC (x y : List UInt8 × List UInt8) : Int := if ndC x.1 y.1 = 0 then cI (Num.dec x.2) (Num.dec y.2) else ndC x.1 y.1
theorem cC_cmp : Cmp cC := Cmp.then_ (ndC_cmp.key Prod.fst) (cI_cmp.key (fun x : List UInt8 × List UInt8 => (Num.dec x.2 : Int)))
def nd (l : List UInt8) : List UInt8 := l.takeWhile (fun c => !dig c)
def nr (l : List UInt8) : List UInt8 := l.dropWhile (fun c => !dig c)
def dg (l : List UInt8) : List UInt8 := (nr l).takeWhile dig
def rest (l : List UInt8) : List UInt8 := (nr l).dropWhile dig
theorem split_all (l : List UInt8) : nd l ++ (dg l ++ rest l) = l := by
  unfold nd dg rest nr
  rw [List.takeWhile_append_dropWhile, List.takeWhile_append_dropWhile]
theorem rest_lt {l : List UInt8} (h : l ≠ []) : (rest l).length < l.length := by
  have e := congrArg List.length (split_all l)
  rw [List.length_append, List.length_append] at e
  have : 0 < (nd l).length + (dg l).length := by
    cases l with
    | nil => exact absurd rfl h
    | cons c r =>
      cases hd : dig c with
      | false =>
        have : nd (c :: r) = c :: nd r := by unfold nd; rw [List.takeWhile_cons]; simp [hd]
        rw [this, List.length_cons]
        omega
      | true =>
        have h1 : nr (c :: r) = c :: r := by unfold nr; rw [List.dropWhile_cons]; simp [hd]
        have : dg (c :: r) = c :: r.takeWhile dig := by unfold dg; rw [h1, List.takeWhile_cons]; simp [hd]
        rw [this, List.length_cons]
        omega
  omega
def chunksN : Nat → List UInt8 → List (List UInt8 × List UInt8)
  | 0, _ => []
  | n + 1, l => if l = [] then [] else (nd l, dg l) :: chunksN n (rest l)
theorem chunksN_more : ∀ (n k : Nat) (l : List UInt8), l.length ≤ n → chunksN (n + k) l = chunksN n l
  | 0, k, l, h => by
    obtain rfl : l = [] := List.length_eq_zero_iff.1 (by omega)
    cases k with
    | zero => rfl
    | succ k => show chunksN (0 + (k + 1)) [] = []; rw [Nat.zero_add, chunksN, if_pos rfl]
  | n + 1, k, l, h => by
    rw [show n + 1 + k = (n + k) + 1 by omega, chunksN, chunksN]
    by_cases hl : l = []
    · rw [if_pos hl, if_pos hl]
    · rw [if_neg hl, if_neg hl, chunksN_more n k (rest l) (by have := rest_lt hl; omega)]
def chunks (l : List UInt8) : List (List UInt8 × List UInt8) := chunksN l.length l
theorem chunks_nil : chunks [] = [] := rfl
theorem chunks_cons {l : List UInt8} (h : l ≠ []) : chunks l = (nd l, dg l) :: chunks (rest l) := by
  have hl := rest_lt h
  unfold chunks
  obtain ⟨k, hk⟩ : ∃ k, l.length = ((rest l).length + k) + 1 := ⟨l.length - (rest l).length - 1, by omega⟩
  rw [hk, chunksN, if_neg h, chunksN_more _ _ _ (Nat.le_refl _)]
theorem chunks_head (l : List UInt8) : (chunks l).headD ([], []) = (nd l, dg l) := by
  by_cases h : l = []
  · subst h
    rfl
  · rw [chunks_cons h]
    rfl
theorem chunks_tail (l : List UInt8) : (chunks l).tail = chunks (rest l) := by
  by_cases h : l = []
  · subst h
    rfl
  · rw [chunks_cons h]
    rfl
/-- The order of parts. -/
def debC (a b : List UInt8) : Int := padL cC ([], []) (chunks a) (chunks b)
theorem debC_cmp : Cmp debC := (padL_cmp cC_cmp ([], [])).key chunks
theorem debC_nil : debC [] [] = 0 := rfl
theorem padL_step {α : Type} {c : α → α → Int} (h : Cmp c) (z : α) (l m : List α) : padL c z l m = if c (l.headD z) (m.headD z) = 0 then padL c z l.tail m.tail else c (l.headD z) (m.headD z) := by
  rw [padL_at h z l m (max l.length m.length + 1) (by omega) (by omega), padN, padL_at h z l.tail m.tail (max l.length m.length) (by rw [List.length_tail]; omega) (by rw [List.length_tail]; omega)]
/-- One stretch of each, then what is left. -/
theorem debC_step (a b : List UInt8) : debC a b = if ndC (nd a) (nd b) = 0 then (if cI (Num.dec (dg a)) (Num.dec (dg b)) = 0 then debC (rest a) (rest b) else cI (Num.dec (dg a)) (Num.dec (dg b))) else ndC (nd a) (nd b) := by
  unfold debC
  rw [padL_step cC_cmp, chunks_head, chunks_head, chunks_tail, chunks_tail]
  unfold cC
  by_cases h : ndC (nd a) (nd b) = 0
  · rw [if_pos h, if_pos h]
  · rw [if_neg h, if_neg h, if_neg h]
theorem ndC_step (p q : List UInt8) : ndC p q = if wC p.head? q.head? = 0 then ndC p.tail q.tail else wC p.head? q.head? := by
  unfold ndC
  rw [padL_step wC_cmp]
  have e : ∀ l : List UInt8, (l.map some).headD none = l.head? := fun l => by cases l <;> rfl
  have t : ∀ l : List UInt8, (l.map some).tail = l.tail.map some := fun l => by cases l <;> rfl
  rw [e, e, t, t]
theorem ndC_nil : ndC [] [] = 0 := rfl
/-- Equal stretches alone tell nothing. -/
theorem ndC_zero : ∀ {p q : List UInt8}, ndC p q = 0 ↔ p = q
  | [], [] => by rw [ndC_nil]; simp
  | [], d :: q => by
    rw [ndC_step]
    have : wC (([] : List UInt8).head?) ((d :: q).head?) ≠ 0 := fun h => by
      have := wt_inj (cI_zero.1 h)
      cases this
    rw [if_neg this]
    simpa using this
  | c :: p, [] => by
    rw [ndC_step]
    have : wC ((c :: p).head?) (([] : List UInt8).head?) ≠ 0 := fun h => by
      have := wt_inj (cI_zero.1 h)
      cases this
    rw [if_neg this]
    simpa using this
  | c :: p, d :: q => by
    rw [ndC_step]
    by_cases h : c = d
    · subst h
      have : wC ((c :: p).head?) ((c :: q).head?) = 0 := wC_cmp.self _
      rw [if_pos this]
      show ndC p q = 0 ↔ _
      rw [ndC_zero]
      simp
    · have : wC ((c :: p).head?) ((d :: q).head?) ≠ 0 := fun e => h (by
        have := wt_inj (cI_zero.1 e)
        simpa using this)
      rw [if_neg this]
      refine ⟨fun e => absurd e this, fun e => absurd (by injection e) h⟩
/-- The weights that the program gives. -/
def iwB (c : UInt8) : Int := if c.toNat = 126 then 1 else if c.toNat < 65 ∨ 90 < c.toNat ∧ c.toNat < 97 ∨ 122 < c.toNat then (c.toNat : Int) + 122 else (c.toNat : Int)
def iw : Option UInt8 → Int
  | none => 2
  | some c => iwB c
theorem iw_key (c : UInt8) : (iwB c = 1 ∧ wtB c = -1 ∧ c.toNat = 126) ∨ (iwB c = c.toNat ∧ wtB c = c.toNat ∧ 65 ≤ c.toNat ∧ c.toNat ≤ 122) ∨ (iwB c = (c.toNat : Int) + 122 ∧ wtB c = (c.toNat : Int) + 256) := by
  unfold wtB iwB isLet
  by_cases h1 : c.toNat = 126
  · rw [if_pos h1, if_pos h1]
    exact .inl ⟨rfl, rfl, h1⟩
  · rw [if_neg h1, if_neg h1]
    by_cases h2 : 65 ≤ c.toNat ∧ c.toNat ≤ 90 ∨ 97 ≤ c.toNat ∧ c.toNat ≤ 122
    · rw [if_pos (decide_eq_true h2), if_neg (by omega)]
      exact .inr (.inl ⟨rfl, rfl, by omega, by omega⟩)
    · rw [if_pos (show c.toNat < 65 ∨ 90 < c.toNat ∧ c.toNat < 97 ∨ 122 < c.toNat by omega), if_neg (fun e => h2 (of_decide_eq_true e))]
      exact .inr (.inr ⟨rfl, rfl⟩)
/-- Both weights tell the same order (byte 0 is none of these texts). -/
theorem iw_cmp {x y : Option UInt8} (hx : ∀ c, x = some c → c.toNat ≠ 0) (hy : ∀ c, y = some c → c.toNat ≠ 0) : cI (iw x) (iw y) = wC x y := by
  unfold wC
  cases x with
  | none =>
    cases y with
    | none => rfl
    | some d =>
      have b := iw_key d
      have hd := hy d rfl
      show cI 2 (iwB d) = cI 0 (wtB d)
      unfold cI
      repeat' split
      all_goals omega
  | some c =>
    have a := iw_key c
    have hc := hx c rfl
    cases y with
    | none =>
      show cI (iwB c) 2 = cI (wtB c) 0
      unfold cI
      repeat' split
      all_goals omega
    | some d =>
      have b := iw_key d
      have hd := hy d rfl
      show cI (iwB c) (iwB d) = cI (wtB c) (wtB d)
      unfold cI
      repeat' split
      all_goals omega
/-- Where two stretches first differ they tell their order. -/
theorem ndC_at : ∀ (i : Nat) (p q : List UInt8), p.take i = q.take i → p[i]? ≠ q[i]? → ndC p q = wC p[i]? q[i]?
  | 0, p, q, _, h => by
    rw [ndC_step]
    have e : ∀ l : List UInt8, l.head? = l[0]? := fun l => by cases l <;> rfl
    rw [e, e]
    have n : ¬ wC p[0]? q[0]? = 0 := fun z => h (wt_inj (cI_zero.1 z))
    rw [if_neg n]
  | i + 1, p, q, h, hn => by
    cases p with
    | nil =>
      cases q with
      | nil => exact absurd rfl hn
      | cons d q => simp at h
    | cons c p =>
      cases q with
      | nil => simp at h
      | cons d q =>
        rw [List.take_succ_cons, List.take_succ_cons] at h
        injection h with h1 h2
        subst h1
        have z : wC (c :: p).head? (c :: q).head? = 0 := wC_cmp.self _
        rw [ndC_step, if_pos z]
        have := ndC_at i p q h2 (by simpa using hn)
        simpa using this
end Go.Proofs.YtchnlfkdgajodaaDoor.Deb
