/- Debian's order of parts in plain Lean: by what stands ahead of digits, then by the digits' number, again and again. No program.
   Texts cut at a byte; what stands behind a version's numbers compared. Plain Lean, no program.
   Debian's versions in plain Lean: what a text falls into, how two of these compare; what stands behind a text, zeros ahead of numbers. No program.
   Putting in order by insertion, in plain Lean: what comes out is in order. No program.
   Contract by hand: zzIndexAny, where both texts are ASCII.
   Contract by hand: a text of bytes below 128 split at the empty text: its bytes one by one.
   Contract by hand: splitDebianDigitPrefix, where the text's bytes are below 128.
   Contract by hand: compareDebianVersions, where both texts' bytes are below 128 and none is 0.
   Contract by hand: compareDebianVersions, where both texts' bytes are below 128 and none is 0. -/
import Derived.Test.YtffcbcihnoaikaaDoorZA
import Derived.Test.YtffcbcihnoaikaaDoorZD
import Derived.Test.YtffcbcihnoaikaaDoorWMore
import Derived.Test.YtffcbcihnoaikaaDoorZC
import Derived.Test.YtffcbcihnoaikaaDoorQFx1
import Derived.Test.YtffcbcihnoaikaaDoorQWx1
namespace Go.Proofs.YtffcbcihnoaikaaDoor.Deb
open Go.Proofs.YtffcbcihnoaikaaDoor.Ord Go.Proofs.YtffcbcihnoaikaaDoor.Rpm
set_option linter.unusedVariables false

/-- Where a byte of what stands ahead of digits stands: a tilde, the end, letters, all else. -/
def isLet (c : UInt8) : Bool := decide (65 ≤ c.toNat ∧ c.toNat ≤ 90 ∨ 97 ≤ c.toNat ∧ c.toNat ≤ 122)
def wtB (c : UInt8) : Int := if c.toNat = 126 then -1 else if isLet c then (c.toNat : Int) else (c.toNat : Int) + 256
def wt : Option UInt8 → Int
  | none => 0
  | some c => wtB c
def wC (x y : Option UInt8) : Int := cI (wt x) (wt y)
theorem wC_cmp : Cmp wC := cI_cmp.key wt
theorem wt_key (c : UInt8) : (wtB c = -1 ∧ c.toNat = 126) ∨ (wtB c = c.toNat ∧ 65 ≤ c.toNat ∧ c.toNat ≤ 122) ∨ (wtB c = (c.toNat : Int) + 256) := by
  unfold wtB isLet
  by_cases h1 : c.toNat = 126
  · rw [if_pos h1]
    exact .inl ⟨rfl, h1⟩
  · rw [if_neg h1]
    by_cases h2 : 65 ≤ c.toNat ∧ c.toNat ≤ 90 ∨ 97 ≤ c.toNat ∧ c.toNat ≤ 122
    · rw [if_pos (decide_eq_true h2)]
      exact .inr (.inl ⟨rfl, by omega, by omega⟩)
    · rw [if_neg (by simpa using h2)]
      exact .inr (.inr rfl)
theorem wtB_ne (c : UInt8) : wtB c ≠ 0 := by
  have := wt_key c
  omega
/-- The weights tell the bytes. -/
theorem wt_inj {x y : Option UInt8} (h : wt x = wt y) : x = y := by
  cases x with
  | none =>
    cases y with
    | none => rfl
    | some d => exact absurd h.symm (wtB_ne d)
  | some c =>
    cases y with
    | none => exact absurd h (wtB_ne c)
    | some d =>
      have a := wt_key c
      have b := wt_key d
      have h : wtB c = wtB d := h
      have : c.toNat = d.toNat := by omega
      rw [UInt8.toNat_inj.1 this]
/-- What stands ahead of digits, compared. -/
def ndC (p q : List UInt8) : Int := padL wC none (p.map some) (q.map some)
theorem ndC_cmp : Cmp ndC := (padL_cmp wC_cmp none).key (List.map some)
/-- A stretch: what stands ahead of digits, and the digits. -/
def cC (x y : List UInt8 × List UInt8) : Int := if ndC x.1 y.1 = 0 then cI (Num.dec x.2) (Num.dec y.2) else ndC x.1 y.1
theorem cC_cmp : Cmp cC := Cmp.then_ (ndC_cmp.key Prod.fst) (cI_cmp.key (fun x : List UInt8 × List UInt8 => (Num.dec x.2 : Int)))
def nd (l : List UInt8) : List UInt8 := l.takeWhile (fun c => !dig c)
def nr (l : List UInt8) : List UInt8 := l.dropWhile (fun c => !dig c)
def dg (l : List UInt8) : List UInt8 := (nr l).takeWhile dig
def rest (l : List UInt8) : List UInt8 := (nr l).dropWhile dig
theorem split_all (l : List UInt8) : nd l ++ (dg l ++ rest l) = l := by
  unfold nd dg rest nr
  rw [List.takeWhile_append_dropWhile, List.takeWhile_append_dropWhile]
theorem rest_lt {l : List UInt8} (h : l ≠ []) : (rest l).length < l.length := by
  have e := congrArg List.length (split_all l)
  rw [List.length_append, List.length_append] at e
  have : 0 < (nd l).length + (dg l).length := by
    cases l with
    | nil => exact absurd rfl h
    | cons c r =>
      cases hd : dig c with
      | false =>
        have : nd (c :: r) = c :: nd r := by unfold nd; rw [List.takeWhile_cons]; simp [hd]
        rw [this, List.length_cons]
        omega
      | true =>
        have h1 : nr (c :: r) = c :: r := by unfold nr; rw [List.dropWhile_cons]; simp [hd]
        have : dg (c :: r) = c :: r.takeWhile dig := by unfold dg; rw [h1, List.takeWhile_cons]; simp [hd]
        rw [this, List.length_cons]
        omega
  omega
def chunksN : Nat → List UInt8 → List (List UInt8 × List UInt8)
  | 0, _ => []
  | n + 1, l => if l = [] then [] else (nd l, dg l) :: chunksN n (rest l)
theorem chunksN_more : ∀ (n k : Nat) (l : List UInt8), l.length ≤ n → chunksN (n + k) l = chunksN n l
  | 0, k, l, h => by
    obtain rfl : l = [] := List.length_eq_zero_iff.1 (by omega)
    cases k with
    | zero => rfl
    | succ k => show chunksN (0 + (k + 1)) [] = []; rw [Nat.zero_add, chunksN, if_pos rfl]
  | n + 1, k, l, h => by
    rw [show n + 1 + k = (n + k) + 1 by omega, chunksN, chunksN]
    by_cases hl : l = []
    · rw [if_pos hl, if_pos hl]
    · rw [if_neg hl, if_neg hl, chunksN_more n k (rest l) (by have := rest_lt hl; omega)]
def chunks (l : List UInt8) : List (List UInt8 × List UInt8) := chunksN l.length l
theorem chunks_nil : chunks [] = [] := rfl
theorem chunks_cons {l : List UInt8} (h : l ≠ []) : chunks l = (nd l, dg l) :: chunks (rest l) := by
  have hl := rest_lt h
  unfold chunks
  obtain ⟨k, hk⟩ : ∃ k, l.length = ((rest l).length + k) + 1 := ⟨l.length - (rest l).length - 1, by omega⟩
  rw [hk, chunksN, if_neg h, chunksN_more _ _ _ (Nat.le_refl _)]
theorem chunks_head (l : List UInt8) : (chunks l).headD ([], []) = (nd l, dg l) := by
  by_cases h : l = []
  · subst h
    rfl
  · rw [chunks_cons h]
    rfl
theorem chunks_tail (l : List UInt8) : (chunks l).tail = chunks (rest l) := by
  by_cases h : l = []
  · subst h
    rfl
  · rw [chunks_cons h]
    rfl
/-- The order of parts. -/
def debC (a b : List UInt8) : Int := padL cC ([], []) (chunks a) (chunks b)
theorem debC_cmp : Cmp debC := (padL_cmp cC_cmp ([], [])).key chunks
theorem debC_nil : debC [] [] = 0 := rfl
theorem padL_step {α : Type} {c : α → α → Int} (h : Cmp c) (z : α) (l m : List α) : padL c z l m = if c (l.headD z) (m.headD z) = 0 then padL c z l.tail m.tail else c (l.headD z) (m.headD z) := by
  rw [padL_at h z l m (max l.length m.length + 1) (by omega) (by omega), padN, padL_at h z l.tail m.tail (max l.length m.length) (by rw [List.length_tail]; omega) (by rw [List.length_tail]; omega)]
/-- One stretch of each, then what is left. -/
theorem debC_step (a b : List UInt8) : debC a b = if ndC (nd a) (nd b) = 0 then (if cI (Num.dec (dg a)) (Num.dec (dg b)) = 0 then debC (rest a) (rest b) else cI (Num.dec (dg a)) (Num.dec (dg b))) else ndC (nd a) (nd b) := by
  unfold debC
  rw [padL_step cC_cmp, chunks_head, chunks_head, chunks_tail, chunks_tail]
  unfold cC
  by_cases h : ndC (nd a) (nd b) = 0
  · rw [if_pos h, if_pos h]
  · rw [if_neg h, if_neg h, if_neg h]
theorem ndC_step (p q : List UInt8) : ndC p q = if wC p.head? q.head? = 0 then ndC p.tail q.tail else wC p.head? q.head? := by
  unfold ndC
  rw [padL_step wC_cmp]
  have e : ∀ l : List UInt8, (l.map some).headD none = l.head? := fun l => by cases l <;> rfl
  have t : ∀ l : List UInt8, (l.map some).tail = l.tail.map some := fun l => by cases l <;> rfl
  rw [e, e, t, t]
theorem ndC_nil : ndC [] [] = 0 := rfl
/-- Equal stretches alone tell nothing. -/
theorem ndC_zero : ∀ {p q : List UInt8}, ndC p q = 0 ↔ p = q
  | [], [] => by rw [ndC_nil]; simp
  | [], d :: q => by
    rw [ndC_step]
    have : wC (([] : List UInt8).head?) ((d :: q).head?) ≠ 0 := fun h => by
      have := wt_inj (cI_zero.1 h)
      cases this
    rw [if_neg this]
    simpa using this
  | c :: p, [] => by
    rw [ndC_step]
    have : wC ((c :: p).head?) (([] : List UInt8).head?) ≠ 0 := fun h => by
      have := wt_inj (cI_zero.1 h)
      cases this
    rw [if_neg this]
    simpa using this
  | c :: p, d :: q => by
    rw [ndC_step]
    by_cases h : c = d
    · subst h
      have : wC ((c :: p).head?) ((c :: q).head?) = 0 := wC_cmp.self _
      rw [if_pos this]
      show ndC p q = 0 ↔ _
      rw [ndC_zero]
      simp
    · have : wC ((c :: p).head?) ((d :: q).head?) ≠ 0 := fun e => h (by
        have := wt_inj (cI_zero.1 e)
        simpa using this)
      rw [if_neg this]
      refine ⟨fun e => absurd e this, fun e => absurd (by injection e) h⟩
/-- The weights that the program gives. -/
def iwB (c : UInt8) : Int := if c.toNat = 126 then 1 else if c.toNat < 65 ∨ 90 < c.toNat ∧ c.toNat < 97 ∨ 122 < c.toNat then (c.toNat : Int) + 122 else (c.toNat : Int)
def iw : Option UInt8 → Int
  | none => 2
  | some c => iwB c
theorem iw_key (c : UInt8) : (iwB c = 1 ∧ wtB c = -1 ∧ c.toNat = 126) ∨ (iwB c = c.toNat ∧ wtB c = c.toNat ∧ 65 ≤ c.toNat ∧ c.toNat ≤ 122) ∨ (iwB c = (c.toNat : Int) + 122 ∧ wtB c = (c.toNat : Int) + 256) := by
  unfold wtB iwB isLet
  by_cases h1 : c.toNat = 126
  · rw [if_pos h1, if_pos h1]
    exact .inl ⟨rfl, rfl, h1⟩
  · rw [if_neg h1, if_neg h1]
    by_cases h2 : 65 ≤ c.toNat ∧ c.toNat ≤ 90 ∨ 97 ≤ c.toNat ∧ c.toNat ≤ 122
    · rw [if_pos (decide_eq_true h2), if_neg (by omega)]
      exact .inr (.inl ⟨rfl, rfl, by omega, by omega⟩)
    · rw [if_pos (show c.toNat < 65 ∨ 90 < c.toNat ∧ c.toNat < 97 ∨ 122 < c.toNat by omega), if_neg (fun e => h2 (of_decide_eq_true e))]
      exact .inr (.inr ⟨rfl, rfl⟩)
/-- Both weights tell the same order (byte 0 is none of these texts). -/
theorem iw_cmp {x y : Option UInt8} (hx : ∀ c, x = some c → c.toNat ≠ 0) (hy : ∀ c, y = some c → c.toNat ≠ 0) : cI (iw x) (iw y) = wC x y := by
  unfold wC
  cases x with
  | none =>
    cases y with
    | none => rfl
    | some d =>
      have b := iw_key d
      have hd := hy d rfl
      show cI 2 (iwB d) = cI 0 (wtB d)
      unfold cI
      repeat' split
      all_goals omega
  | some c =>
    have a := iw_key c
    have hc := hx c rfl
    cases y with
    | none =>
      show cI (iwB c) 2 = cI (wtB c) 0
      unfold cI
      repeat' split
      all_goals omega
    | some d =>
      have b := iw_key d
      have hd := hy d rfl
      show cI (iwB c) (iwB d) = cI (wtB c) (wtB d)
      unfold cI
      repeat' split
      all_goals omega
/-- Where two stretches first differ they tell their order. -/
theorem ndC_at : ∀ (i : Nat) (p q : List UInt8), p.take i = q.take i → p[i]? ≠ q[i]? → ndC p q = wC p[i]? q[i]?
  | 0, p, q, _, h => by
    rw [ndC_step]
    have e : ∀ l : List UInt8, l.head? = l[0]? := fun l => by cases l <;> rfl
    rw [e, e]
    have n : ¬ wC p[0]? q[0]? = 0 := fun z => h (wt_inj (cI_zero.1 z))
    rw [if_neg n]
  | i + 1, p, q, h, hn => by
    cases p with
    | nil =>
      cases q with
      | nil => exact absurd rfl hn
      | cons d q => simp at h
    | cons c p =>
      cases q with
      | nil => simp at h
      | cons d q =>
        rw [List.take_succ_cons, List.take_succ_cons] at h
        injection h with h1 h2
        subst h1
        have z : wC (c :: p).head? (c :: q).head? = 0 := wC_cmp.self _
        rw [ndC_step, if_pos z]
        have := ndC_at i p q h2 (by simpa using hn)
        simpa using this
end Go.Proofs.YtffcbcihnoaikaaDoor.Deb

namespace Go.Proofs.YtffcbcihnoaikaaDoor.Cut
set_option linter.unusedVariables false
open Go.Proofs.YtffcbcihnoaikaaDoor.Ord Go.Proofs.YtffcbcihnoaikaaDoor.Rpm

/-- A text cut at each c. -/
def cutAt (c : UInt8) : List UInt8 → List (List UInt8)
  | [] => [[]]
  | x :: r => if x = c then [] :: cutAt c r else (match cutAt c r with | h :: t => (x :: h) :: t | [] => [[x]])
theorem cutAt_ne (c : UInt8) (l : List UInt8) : cutAt c l ≠ [] := by
  cases l with
  | nil => simp [cutAt]
  | cons x r =>
    unfold cutAt
    split
    · simp
    · split <;> simp
/-- Up to the first c, and behind it. -/
def upTo (c : UInt8) (l : List UInt8) : List UInt8 := l.takeWhile (fun x => !(x == c))
theorem cutAt_no (c : UInt8) : ∀ l : List UInt8, (l.any (fun x => x == c)) = false → cutAt c l = [l] ∧ upTo c l = l
  | [], _ => ⟨rfl, rfl⟩
  | x :: r, h => by
    rw [List.any_cons, Bool.or_eq_false_iff] at h
    obtain ⟨e1, e2⟩ := cutAt_no c r h.2
    have hx : ¬ x = c := by simpa using h.1
    refine ⟨?_, ?_⟩
    · unfold cutAt
      rw [if_neg hx, e1]
    · unfold upTo at e2 ⊢
      rw [List.takeWhile_cons_of_pos (by simp [hx]), e2]
theorem cutAt_yes (c : UInt8) : ∀ l : List UInt8, (l.any (fun x => x == c)) = true → cutAt c l = upTo c l :: cutAt c (l.drop ((upTo c l).length + 1)) ∧ (upTo c l).length < l.length ∧ (l.take (upTo c l).length) = upTo c l
  | [], h => by simp at h
  | x :: r, h => by
    by_cases hx : x = c
    · have e : upTo c (x :: r) = [] := by
        unfold upTo
        rw [List.takeWhile_cons_of_neg (by simp [hx])]
      rw [e]
      refine ⟨?_, by simp, rfl⟩
      conv => lhs; unfold cutAt
      rw [if_pos hx]
      rfl
    · rw [List.any_cons] at h
      have hr : (r.any fun x => x == c) = true := by simpa [hx] using h
      obtain ⟨e1, e2, e3⟩ := cutAt_yes c r hr
      have e : upTo c (x :: r) = x :: upTo c r := by
        unfold upTo
        rw [List.takeWhile_cons_of_pos (by simp [hx])]
      rw [e]
      refine ⟨?_, by simpa using e2, by rw [List.length_cons, List.take_succ_cons, e3]⟩
      conv => lhs; unfold cutAt
      rw [if_neg hx, e1]
      rfl
theorem cutAt_sizes (c : UInt8) : ∀ l : List UInt8, (cutAt c l).length ≤ l.length + 1 ∧ ∀ x ∈ cutAt c l, x.length ≤ l.length
  | [] => ⟨by simp [cutAt], by simp [cutAt]⟩
  | x :: r => by
    obtain ⟨h1, h2⟩ := cutAt_sizes c r
    unfold cutAt
    by_cases hx : x = c
    · rw [if_pos hx]
      refine ⟨by simp; omega, ?_⟩
      intro y hy
      rcases List.mem_cons.1 hy with rfl | hy
      · simp
      · have := h2 y hy
        simp
        omega
    · rw [if_neg hx]
      split
      · rename_i a t he
        rw [he] at h1 h2
        refine ⟨by simp at h1 ⊢; omega, ?_⟩
        intro y hy
        rcases List.mem_cons.1 hy with rfl | hy
        · have := h2 a List.mem_cons_self
          simp
          omega
        · have := h2 y (List.mem_cons_of_mem _ hy)
          simp
          omega
      · exact ⟨by simp, by intro y hy; rw [List.mem_singleton.1 hy]; simp⟩
/-- A hyphen ahead is dropped. -/
def trim (c : UInt8) (l : List UInt8) : List UInt8 := match l with
  | x :: r => if x = c then r else l
  | [] => []
theorem trim_len (c : UInt8) (l : List UInt8) : (trim c l).length ≤ l.length := by
  unfold trim
  cases l with
  | nil => simp
  | cons x r =>
    simp only
    split <;> simp
/-- What counts of what stands behind the numbers. -/
def core (l : List UInt8) : List UInt8 := trim 45 (upTo 43 l)
def em (l : List UInt8) : Int := if l = [] then 1 else 0
/-- What stands behind the numbers compared. -/
def buildC (a b : List UInt8) : Int := if cI (em (core a)) (em (core b)) = 0 then lexL Seg.idC (cutAt 46 (core a)) (cutAt 46 (core b)) else cI (em (core a)) (em (core b))
theorem buildC_cmp : Cmp buildC := (cI_cmp.key (fun l => em (core l))).then_ ((lexL_cmp Seg.idC_cmp).key (fun l => cutAt 46 (core l)))
theorem core_len (l : List UInt8) : (core l).length ≤ l.length := by
  have a := trim_len 45 (upTo 43 l)
  have b : (upTo 43 l).length ≤ l.length := List.Sublist.length_le (List.takeWhile_sublist _)
  unfold core
  omega
end Go.Proofs.YtffcbcihnoaikaaDoor.Cut

namespace Go.Proofs.YtffcbcihnoaikaaDoor.Deb
open Go.Proofs.YtffcbcihnoaikaaDoor.Ord Go.Proofs.YtffcbcihnoaikaaDoor.Rpm
set_option linter.unusedVariables false

theorem Cmp_same {α : Type} {c : α → α → Int} (h : Cmp c) {a b : α} (e : c a b = 0) (d : α) : c a d = c b d := by
  have f1 := h.flip a b
  have f2 := h.flip a d
  have f3 := h.flip b d
  have t1 := h.tr a b d (by omega)
  have t2 := h.tr b a d (by omega)
  have t3 := fun x => h.tr d a b x (by omega)
  have t4 := fun x => h.tr d b a x (by omega)
  have r1 := h.rng a d
  have r2 := h.rng b d
  rcases r1 with r1 | r1 | r1 <;> rcases r2 with r2 | r2 | r2 <;> first
    | omega
    | (have := t1 (by omega); omega)
    | (have := t2 (by omega); omega)
    | (have := t3 (by omega); omega)
    | (have := t4 (by omega); omega)
theorem Cmp_same' {α : Type} {c : α → α → Int} (h : Cmp c) {a b : α} (e : c a b = 0) (d : α) : c d a = c d b := by
  rw [h.flip a d, h.flip b d, Cmp_same h e d]
theorem nd_no' {c : UInt8} (h : dig c = false) (r : List UInt8) : nd (c :: r) = c :: nd r ∧ nr (c :: r) = nr r := by
  unfold nd nr
  rw [List.takeWhile_cons_of_pos (by simp [h]), List.dropWhile_cons_of_pos (by simp [h])]
  exact ⟨rfl, rfl⟩
theorem nd_yes' {c : UInt8} (h : dig c = true) (r : List UInt8) : nd (c :: r) = [] ∧ nr (c :: r) = c :: r := by
  unfold nd nr
  rw [List.takeWhile_cons_of_neg (by simp [h]), List.dropWhile_cons_of_neg (by simp [h])]
  exact ⟨rfl, rfl⟩
theorem deb_same' {c : UInt8} (h : dig c = false) (x y : List UInt8) : debC (c :: x) (c :: y) = debC x y := by
  rw [debC_step, debC_step x y]
  have e : ndC (nd (c :: x)) (nd (c :: y)) = ndC (nd x) (nd y) := by
    rw [(nd_no' h x).1, (nd_no' h y).1, ndC_step]
    have z : wC (c :: nd x).head? (c :: nd y).head? = 0 := wC_cmp.self _
    rw [if_pos z]
    rfl
  have d : ∀ l : List UInt8, dg (c :: l) = dg l ∧ rest (c :: l) = rest l := fun l => by
    unfold dg rest
    rw [(nd_no' h l).2]
    exact ⟨rfl, rfl⟩
  rw [e, (d x).1, (d x).2, (d y).1, (d y).2]
theorem deb_dig {c d : UInt8} (hc : dig c = true) (hd : dig d = true) (x y : List UInt8) : debC (c :: x) (d :: y) = if cI (Num.dec ((c :: x).takeWhile dig)) (Num.dec ((d :: y).takeWhile dig)) = 0 then debC ((c :: x).dropWhile dig) ((d :: y).dropWhile dig) else cI (Num.dec ((c :: x).takeWhile dig)) (Num.dec ((d :: y).takeWhile dig)) := by
  rw [debC_step, (nd_yes' hc x).1, (nd_yes' hd y).1, if_pos ndC_nil]
  unfold dg rest
  rw [(nd_yes' hc x).2, (nd_yes' hd y).2]
theorem tw_app (p : UInt8 → Bool) (e : UInt8) (he : p e = false) (s : List UInt8) : ∀ a : List UInt8, (a ++ e :: s).takeWhile p = a.takeWhile p ∧ (a ++ e :: s).dropWhile p = a.dropWhile p ++ e :: s
  | [] => by
    rw [List.nil_append, List.takeWhile_cons_of_neg (by simp [he]), List.dropWhile_cons_of_neg (by simp [he])]
    exact ⟨rfl, rfl⟩
  | c :: r => by
    obtain ⟨h1, h2⟩ := tw_app p e he s r
    rw [List.cons_append]
    cases hc : p c with
    | true =>
      rw [List.takeWhile_cons_of_pos hc, List.takeWhile_cons_of_pos hc, List.dropWhile_cons_of_pos hc, List.dropWhile_cons_of_pos hc, h1, h2]
      exact ⟨rfl, rfl⟩
    | false =>
      rw [List.takeWhile_cons_of_neg (by simp [hc]), List.takeWhile_cons_of_neg (by simp [hc]), List.dropWhile_cons_of_neg (by simp [hc]), List.dropWhile_cons_of_neg (by simp [hc])]
      exact ⟨rfl, rfl⟩
/-- A text, and the same with more behind it: what comes first behind it tells. -/
theorem deb_app (e : UInt8) (he : dig e = false) (s : List UInt8) (n : Nat) : ∀ a : List UInt8, a.length ≤ n → debC (a ++ e :: s) a = wC (some e) none := by
  have nil_ : debC (e :: s) [] = wC (some e) none := by
    have hz : ¬ ndC (nd (e :: s)) (nd []) = 0 := by
      rw [(nd_no' he s).1]
      intro h
      have := ndC_zero.1 h
      cases this
    rw [debC_step, if_neg hz, (nd_no' he s).1, ndC_step]
    have hw : ¬ wC (e :: nd s).head? (nd ([] : List UInt8)).head? = 0 := fun h => by
      have := wt_inj (cI_zero.1 h)
      cases this
    rw [if_neg hw]
    rfl
  induction n with
  | zero =>
    intro a ha
    obtain rfl : a = [] := List.length_eq_zero_iff.1 (by omega)
    exact nil_
  | succ n ih =>
    intro a ha
    cases a with
    | nil => exact nil_
    | cons c r =>
      cases hc : dig c with
      | false =>
        rw [List.cons_append, deb_same' hc]
        exact ih r (by simpa using ha)
      | true =>
        have t := tw_app dig e he s (c :: r)
        rw [List.cons_append] at t ⊢
        rw [deb_dig hc hc, t.1, t.2, if_pos (cI_cmp.self _)]
        refine ih _ ?_
        rw [List.dropWhile_cons_of_pos hc]
        exact Nat.le_trans (List.dropWhile_sublist _).length_le (by simpa using ha)
/-- A zero ahead of each number. -/
def zer : Bool → List UInt8 → List UInt8
  | _, [] => []
  | o, c :: r => if dig c = true then (if o = true then c :: zer true r else 48 :: c :: zer true r) else c :: zer false r
theorem zer_cons (o : Bool) (c : UInt8) (r : List UInt8) : zer o (c :: r) = if dig c = true then (if o = true then c :: zer true r else 48 :: c :: zer true r) else c :: zer false r := by rw [zer]
theorem zer_len : ∀ (l : List UInt8) (o : Bool), (zer o l).length ≤ 2 * l.length
  | [], o => by cases o <;> simp [zer]
  | c :: r, o => by
    have a := zer_len r true
    have b := zer_len r false
    rw [zer_cons]
    split
    · split <;> simp <;> omega
    · simp; omega
/-- Within a number nothing is turned; behind it the text goes on. -/
theorem zer_run : ∀ l : List UInt8, (zer true l).takeWhile dig = l.takeWhile dig ∧ (zer true l).dropWhile dig = zer false (l.dropWhile dig)
  | [] => ⟨rfl, rfl⟩
  | c :: r => by
    obtain ⟨h1, h2⟩ := zer_run r
    rw [zer_cons]
    cases hc : dig c with
    | true =>
      rw [if_pos rfl, if_pos rfl, List.takeWhile_cons_of_pos hc, List.takeWhile_cons_of_pos hc, List.dropWhile_cons_of_pos hc, List.dropWhile_cons_of_pos hc, h1, h2]
      exact ⟨rfl, rfl⟩
    | false =>
      rw [if_neg (by simp), List.takeWhile_cons_of_neg (by simp [hc]), List.takeWhile_cons_of_neg (by simp [hc]), List.dropWhile_cons_of_neg (by simp [hc]), List.dropWhile_cons_of_neg (by simp [hc])]
      refine ⟨rfl, ?_⟩
      rw [zer_cons, hc, if_neg (by simp)]
theorem dec_zero (l : List UInt8) : Num.dec (48 :: l) = Num.dec l := by
  unfold Num.dec
  rw [List.foldl_cons]
  rfl
theorem deb_zer (n : Nat) : ∀ a : List UInt8, a.length ≤ n → debC a (zer false a) = 0 := by
  induction n with
  | zero =>
    intro a ha
    obtain rfl : a = [] := List.length_eq_zero_iff.1 (by omega)
    rfl
  | succ n ih =>
    intro a ha
    cases a with
    | nil => rfl
    | cons c r =>
      have hr : r.length ≤ n := by simpa using ha
      rw [zer_cons]
      cases hc : dig c with
      | false =>
        rw [if_neg (by simp), deb_same' hc]
        exact ih r hr
      | true =>
        rw [if_pos rfl, if_neg (by simp), deb_dig hc (by decide)]
        have t := zer_run r
        have e1 : (48 :: c :: zer true r).takeWhile dig = 48 :: (c :: r).takeWhile dig := by
          rw [List.takeWhile_cons_of_pos (by decide), List.takeWhile_cons_of_pos hc, List.takeWhile_cons_of_pos hc, t.1]
        have e2 : (48 :: c :: zer true r).dropWhile dig = zer false ((c :: r).dropWhile dig) := by
          rw [List.dropWhile_cons_of_pos (by decide), List.dropWhile_cons_of_pos hc, List.dropWhile_cons_of_pos hc, t.2]
        rw [e1, e2, dec_zero, if_pos (cI_cmp.self _)]
        refine ih _ ?_
        rw [List.dropWhile_cons_of_pos hc]
        exact Nat.le_trans (List.dropWhile_sublist _).length_le hr
/-- Cut at the last c. -/
def cutLast (c : UInt8) : List UInt8 → Option (List UInt8 × List UInt8)
  | [] => none
  | x :: r => match cutLast c r with
    | some (u, v) => some (x :: u, v)
    | none => if x = c then some ([], r) else none
theorem cutLast_cons (c x : UInt8) (r : List UInt8) : cutLast c (x :: r) = match cutLast c r with | some (u, v) => some (x :: u, v) | none => if x = c then some ([], r) else none := by rw [cutLast]
theorem cutLast_none (c : UInt8) : ∀ l : List UInt8, cutLast c l = none ↔ l.any (fun x => x == c) = false
  | [] => ⟨fun _ => rfl, fun _ => rfl⟩
  | x :: r => by
    have ih := cutLast_none c r
    rw [List.any_cons, Bool.or_eq_false_iff, ← ih]
    rw [cutLast_cons]
    cases h : cutLast c r with
    | some p => simp
    | none =>
      by_cases hx : x = c
      · simp [hx]
      · simp [hx]
theorem cutLast_some (c : UInt8) : ∀ {l u v : List UInt8}, cutLast c l = some (u, v) → l = u ++ c :: v ∧ v.any (fun x => x == c) = false
  | [], u, v, h => by simp [cutLast] at h
  | x :: r, u, v, h => by
    rw [cutLast_cons] at h
    cases hr : cutLast c r with
    | some p =>
      rw [hr] at h
      obtain ⟨p1, p2⟩ := p
      have h := Option.some.inj h
      injection h with h1 h2
      obtain ⟨e1, e2⟩ := cutLast_some c hr
      rw [← h1, ← h2, e1]
      exact ⟨rfl, e2⟩
    | none =>
      rw [hr] at h
      have h : (if x = c then some (([] : List UInt8), r) else none) = some (u, v) := h
      by_cases hx : x = c
      · rw [if_pos hx] at h
        have h := Option.some.inj h
        injection h with h1 h2
        rw [← h1, ← h2, hx]
        exact ⟨rfl, (cutLast_none c r).1 hr⟩
      · rw [if_neg hx] at h
        exact absurd h (by simp)
theorem cutLast_of {c : UInt8} : ∀ {u v : List UInt8}, v.any (fun x => x == c) = false → cutLast c (u ++ c :: v) = some (u, v)
  | [], v, h => by
    rw [List.nil_append]
    rw [cutLast_cons, (cutLast_none c v).2 h]
    show (if c = c then some (([] : List UInt8), v) else none) = _
    rw [if_pos rfl]
  | x :: u, v, h => by
    rw [List.cons_append]
    rw [cutLast_cons, cutLast_of h]
/-- An upstream version and a revision: cut at the last hyphen; without one the revision is 0. -/
def urv (t : List UInt8) : List UInt8 × List UInt8 := (cutLast 45 t).getD (t, [48])
/-- What a text without blanks around falls into: its epoch (none is 0), upstream version and revision. -/
def dvp (t : List UInt8) : Option (Int × List UInt8 × List UInt8) :=
  if t.any (fun x => x == 58) = true then (Num.parse (Cut.upTo 58 t)).map (fun z => (z, urv (t.drop ((Cut.upTo 58 t).length + 1)))) else some (0, urv t)
/-- The order of versions. -/
def dvC (p q : Int × List UInt8 × List UInt8) : Int := if cI p.1 q.1 = 0 then (if debC p.2.1 q.2.1 = 0 then debC p.2.2 q.2.2 else debC p.2.1 q.2.1) else cI p.1 q.1
theorem dvC_cmp : Cmp dvC := Cmp.then_ (cI_cmp.key (fun p : Int × List UInt8 × List UInt8 => p.1)) (Cmp.then_ (debC_cmp.key (fun p : Int × List UInt8 × List UInt8 => p.2.1)) (debC_cmp.key (fun p : Int × List UInt8 × List UInt8 => p.2.2)))
/-- A blank; a text without blanks around. -/
def sp (c : UInt8) : Bool := decide (c.toNat = 32 ∨ 9 ≤ c.toNat ∧ c.toNat ≤ 13)
def dtr (l : List UInt8) : List UInt8 := ((l.dropWhile sp).reverse.dropWhile sp).reverse
theorem dw_none {p : UInt8 → Bool} {l : List UInt8} (h : l.any p = false) : l.dropWhile p = l := by
  cases l with
  | nil => rfl
  | cons c r =>
    rw [List.any_cons, Bool.or_eq_false_iff] at h
    exact List.dropWhile_cons_of_neg (by simp [h.1])
theorem dtr_none {l : List UInt8} (h : l.any sp = false) : dtr l = l := by
  unfold dtr
  rw [dw_none h, dw_none (by rw [List.any_reverse]; exact h), List.reverse_reverse]
theorem dtr_len (l : List UInt8) : (dtr l).length ≤ l.length := by
  unfold dtr
  rw [List.length_reverse]
  refine Nat.le_trans (List.dropWhile_sublist _).length_le ?_
  rw [List.length_reverse]
  exact (List.dropWhile_sublist _).length_le
theorem dtr_mem {l : List UInt8} {c : UInt8} (h : c ∈ dtr l) : c ∈ l := by
  unfold dtr at h
  exact (List.dropWhile_sublist _).subset (List.mem_reverse.1 ((List.dropWhile_sublist _).subset (List.mem_reverse.1 h)))
theorem cutLast_zer : ∀ (l : List UInt8) (o : Bool), cutLast 45 (zer o l) = (cutLast 45 l).map (fun p => (zer o p.1, zer false p.2))
  | [], o => by cases o <;> rfl
  | c :: r, o => by
    have ht := cutLast_zer r true
    have hf := cutLast_zer r false
    rw [zer_cons, cutLast_cons]
    cases hc : dig c with
    | true =>
      have nc : ¬ c = 45 := by rintro rfl; exact absurd hc (by decide)
      have key : cutLast 45 (c :: zer true r) = (cutLast 45 r).map (fun p => (c :: zer true p.1, zer false p.2)) := by
        rw [cutLast_cons, ht]
        cases cutLast 45 r with
        | some p => rfl
        | none => simp [nc]
      have zc : ∀ u, zer o (c :: u) = if o = true then c :: zer true u else 48 :: c :: zer true u := fun u => by rw [zer_cons, if_pos hc]
      rw [if_pos rfl]
      cases o with
      | true =>
        rw [if_pos rfl, key]
        cases cutLast 45 r with
        | some p =>
          show some (c :: zer true p.1, zer false p.2) = some (zer true (c :: p.1), zer false p.2)
          rw [zc, if_pos rfl]
        | none => simp [nc]
      | false =>
        rw [if_neg (by simp), cutLast_cons, key]
        cases cutLast 45 r with
        | some p =>
          show some (48 :: c :: zer true p.1, zer false p.2) = some (zer false (c :: p.1), zer false p.2)
          rw [zc, if_neg (by simp)]
        | none => simp [nc]
    | false =>
      have zc : ∀ u, zer o (c :: u) = c :: zer false u := fun u => by rw [zer_cons, hc, if_neg (by simp)]
      rw [if_neg (by simp), cutLast_cons, hf]
      cases cutLast 45 r with
      | some p =>
        show some (c :: zer false p.1, zer false p.2) = some (zer o (c :: p.1), zer false p.2)
        rw [zc]
      | none =>
        show (if c = 45 then some (([] : List UInt8), zer false r) else none) = Option.map _ (if c = 45 then some (([] : List UInt8), r) else none)
        by_cases h45 : c = 45
        · rw [if_pos h45, if_pos h45]
          cases o <;> rfl
        · rw [if_neg h45, if_neg h45]
          rfl
/-- A text without a colon falls into epoch 0, an upstream version and a revision. -/
theorem dvp_plain {l : List UInt8} (h : l.any (fun x => x == 58) = false) : dvp l = some (0, urv l) := by
  unfold dvp
  rw [if_neg (by simp [h])]
theorem urv_none {l : List UInt8} (h : l.any (fun x => x == 45) = false) : urv l = (l, [48]) := by
  unfold urv
  rw [(cutLast_none 45 l).2 h]
  rfl
theorem urv_of {u v : List UInt8} (h : v.any (fun x => x == 45) = false) : urv (u ++ 45 :: v) = (u, v) := by
  unfold urv
  rw [cutLast_of h]
  rfl
theorem urv_zer (l : List UInt8) (n : Int) : dvC (n, urv l) (n, urv (zer false l)) = 0 := by
  unfold urv
  rw [cutLast_zer]
  unfold dvC
  rw [if_pos (cI_cmp.self _)]
  cases cutLast 45 l with
  | some p =>
    show (if debC p.1 (zer false p.1) = 0 then debC p.2 (zer false p.2) else debC p.1 (zer false p.1)) = 0
    rw [deb_zer _ p.1 (Nat.le_refl _), if_pos rfl, deb_zer _ p.2 (Nat.le_refl _)]
  | none =>
    show (if debC l (zer false l) = 0 then debC [48] [48] else debC l (zer false l)) = 0
    rw [deb_zer _ l (Nat.le_refl _), if_pos rfl, debC_cmp.self]
theorem dvC_up (n : Int) (u v r : List UInt8) : dvC (n, u, r) (n, v, r) = debC u v := by
  unfold dvC
  rw [if_pos (cI_cmp.self _)]
  show (if debC u v = 0 then debC r r else debC u v) = _
  by_cases h : debC u v = 0
  · rw [if_pos h, h, debC_cmp.self]
  · rw [if_neg h]
end Go.Proofs.YtffcbcihnoaikaaDoor.Deb

namespace Go.Proofs.YtffcbcihnoaikaaDoor.Ins
open Go.Proofs.YtffcbcihnoaikaaDoor.Ord
set_option linter.unusedVariables false

variable {α : Type}
/-- How many at the head are not greater. -/
def place (c : α → α → Int) (s : α) : List α → Nat
  | [] => 0
  | x :: r => if c x s > 0 then 0 else place c s r + 1
def ins (c : α → α → Int) (s : α) (l : List α) : List α := l.take (place c s l) ++ s :: l.drop (place c s l)
def sort (c : α → α → Int) : List α → List α → List α
  | acc, [] => acc
  | acc, s :: r => sort c (ins c s acc) r
theorem place_le (c : α → α → Int) (s : α) : ∀ l : List α, place c s l ≤ l.length
  | [] => Nat.le_refl _
  | x :: r => by
    unfold place
    split
    · exact Nat.zero_le _
    · have := place_le c s r
      simpa using this
/-- Where the search stands: none of those before is greater; the one there is, or there is none. -/
theorem place_of (c : α → α → Int) (s : α) : ∀ (l : List α) (k : Nat), k ≤ l.length → (∀ (i : Nat) (x : α), i < k → l[i]? = some x → ¬ c x s > 0) → (∀ x : α, l[k]? = some x → c x s > 0) → place c s l = k
  | [], k, hk, _, _ => by
    have : k = 0 := by simpa using hk
    rw [this]
    rfl
  | x :: r, 0, _, _, h => by
    unfold place
    rw [if_pos (h x rfl)]
  | x :: r, k + 1, hk, hb, h => by
    unfold place
    rw [if_neg (hb 0 x (Nat.succ_pos _) rfl), place_of c s r k (by simpa using hk) (fun i y hi hy => hb (i + 1) y (Nat.succ_lt_succ hi) hy) (fun y hy => h y hy)]
theorem ins_mem {c : α → α → Int} {s y : α} {l : List α} : y ∈ ins c s l ↔ y = s ∨ y ∈ l := by
  unfold ins
  have e := List.take_append_drop (place c s l) l
  constructor
  · intro h
    rcases List.mem_append.1 h with h | h
    · exact .inr (List.mem_of_mem_take h)
    · rcases List.mem_cons.1 h with h | h
      · exact .inl h
      · exact .inr (List.mem_of_mem_drop h)
  · rintro (rfl | h)
    · exact List.mem_append.2 (.inr (List.mem_cons_self ..))
    · rw [← e] at h
      rcases List.mem_append.1 h with h | h
      · exact List.mem_append.2 (.inl h)
      · exact List.mem_append.2 (.inr (List.mem_cons_of_mem _ h))
theorem ins_len (c : α → α → Int) (s : α) (l : List α) : (ins c s l).length = l.length + 1 := by
  unfold ins
  have := place_le c s l
  rw [List.length_append, List.length_cons, List.length_take, List.length_drop]
  omega
theorem sort_mem {c : α → α → Int} {y : α} : ∀ (l acc : List α), y ∈ sort c acc l ↔ y ∈ acc ∨ y ∈ l
  | [], acc => by simp [sort]
  | s :: r, acc => by
    rw [sort, sort_mem r, ins_mem, List.mem_cons]
    constructor
    · rintro ((h | h) | h)
      · exact .inr (.inl h)
      · exact .inl h
      · exact .inr (.inr h)
    · rintro (h | h | h)
      · exact .inl (.inr h)
      · exact .inl (.inl h)
      · exact .inr h
theorem sort_len (c : α → α → Int) : ∀ (l acc : List α), (sort c acc l).length = acc.length + l.length
  | [], acc => rfl
  | s :: r, acc => by
    rw [sort, sort_len c r, ins_len, List.length_cons]
    omega
/-- In order. -/
def Sorted (c : α → α → Int) (l : List α) : Prop := l.Pairwise (fun x y => c x y ≤ 0)
theorem place_lt (c : α → α → Int) (s : α) : ∀ (l : List α), ∀ x ∈ l.take (place c s l), c x s ≤ 0
  | [], x, h => by simp [place] at h
  | y :: r, x, h => by
    unfold place at h
    split at h
    · simp at h
    · next hn =>
      rw [List.take_succ_cons] at h
      rcases List.mem_cons.1 h with rfl | h
      · omega
      · exact place_lt c s r x h
theorem place_ge {c : α → α → Int} (hc : Cmp c) (s : α) : ∀ (l : List α), Sorted c l → ∀ x ∈ l.drop (place c s l), c s x ≤ 0
  | [], _, x, h => by simp at h
  | y :: r, hs, x, h => by
    obtain ⟨h1, h2⟩ := List.pairwise_cons.1 hs
    unfold place at h
    split at h
    · next hp =>
      rw [List.drop_zero] at h
      have f := hc.flip y s
      rcases List.mem_cons.1 h with rfl | h
      · omega
      · exact (hc.tr s y x (by omega) (h1 x h)).1
    · rw [List.drop_succ_cons] at h
      exact place_ge hc s r h2 x h
theorem ins_sorted {c : α → α → Int} (hc : Cmp c) (s : α) (l : List α) (h : Sorted c l) : Sorted c (ins c s l) := by
  unfold ins Sorted
  have hl := place_lt c s l
  have hg := place_ge hc s l h
  have e := List.take_append_drop (place c s l) l
  have h' : Sorted c (l.take (place c s l) ++ l.drop (place c s l)) := by rw [e]; exact h
  obtain ⟨p1, p2, p3⟩ := List.pairwise_append.1 h'
  refine List.pairwise_append.2 ⟨p1, List.pairwise_cons.2 ⟨hg, p2⟩, fun x hx y hy => ?_⟩
  rcases List.mem_cons.1 hy with rfl | hy
  · exact hl x hx
  · exact p3 x hx y hy
theorem sort_sorted {c : α → α → Int} (hc : Cmp c) : ∀ (l acc : List α), Sorted c acc → Sorted c (sort c acc l)
  | [], acc, h => h
  | s :: r, acc, h => by
    rw [sort]
    exact sort_sorted hc r _ (ins_sorted hc s acc h)
theorem sorted_at {c : α → α → Int} {l : List α} (h : Sorted c l) (i k : Nat) (hik : i < k) (x y : α) (hx : l[i]? = some x) (hy : l[k]? = some y) : c x y ≤ 0 := by
  obtain ⟨h1, rfl⟩ := List.getElem?_eq_some_iff.1 hx
  obtain ⟨h2, rfl⟩ := List.getElem?_eq_some_iff.1 hy
  exact List.pairwise_iff_getElem.1 h i k h1 h2 hik
end Go.Proofs.YtffcbcihnoaikaaDoor.Ins

namespace Go.Proofs.YtffcbcihnoaikaaDoor.Giv
open Go.RowKit
set_option linter.unusedSimpArgs false
set_option linter.unusedVariables false

theorem placeOf_at (s : ByteArray) (f : UInt8 → Bool) (p : Nat) (h : p < s.size) (hno : (s.toList.take p).any f = false) (hy : f (s[p]'h) = true) : placeOf f s.toList = p := by
  have e : s.toList = s.toList.take p ++ (s[p]'h :: s.toList.drop (p + 1)) := by rw [← drop_at s p h, List.take_append_drop]
  unfold placeOf
  have ha : s.toList.any f = true := by
    rw [e, List.any_append]
    simp [hy]
  rw [if_pos ha, e, List.findIdx_append]
  have hl : (s.toList.take p).findIdx f = (s.toList.take p).length := List.findIdx_eq_length.2 (by simpa using hno)
  rw [hl, if_neg (by omega), List.findIdx_cons, hy, List.length_take, len_toList]
  simp
  omega
theorem placeOf_no (s : ByteArray) (f : UInt8 → Bool) (hno : s.toList.any f = false) : placeOf f s.toList = -1 := by
  unfold placeOf
  rw [if_neg (by simp [hno])]

set_option maxHeartbeats 1000000 in
set_option maxRecDepth 100000 in
theorem indexAny_calls (s set : ByteArray) (w : World) (hs : asc s) (ha : asc set) (hz : s.size ≤ 140737488351232) (hz' : set.size ≤ 140737488351232) :
    Calls Tryd.prog 76 #[.string s, .string set] w fun e w' => e = .returned (.int .i64 (placeOf (inB set) s.toList)) ∧ Below w.heap.size w w' := by
  go_enter Tryd.func76, Tryd.ntmps76
  go_wp2
  go_loopw [] (fun wr => ∃ (pos : Nat), wr.heap[w.heap.size]? = some (.stringIter s pos) ∧ Below w.heap.size w wr ∧ pos ≤ s.size ∧ (s.toList.take pos).any (inB set) = false) (fun wr => s.size - wr.iterPos w.heap.size)
  case atStart =>
    exact ⟨0, World.iter_heap w s 0, (Below.refl _ w).alloc (Nat.le_refl _) _, Nat.zero_le _, rfl⟩
  case round =>
    obtain ⟨pos, hit, hbw, hp, hno⟩ := hrel
    have hsz : w.heap.size < wr.heap.size := (Array.getElem?_eq_some_iff.1 hit).1
    by_cases hlt : pos < s.size
    · have hnx : ∀ ty, (Instr.next (.pointer (some ⟨w.heap.size, 0, none⟩)) true ty).run Tryd.prog wr = .ok (.tuple #[.bool true, .int .i64 pos, .int .i32 ((s[pos]'hlt).toNat : Int)]) (wr.iterAt w.heap.size s (pos + 1)) := fun ty => by
        have h0 := Lib.run_next_any_at (P := Tryd.prog) wr w.heap.size s pos ty hit hlt
        rw [decode_ascii s pos hlt (hs pos hlt)] at h0
        exact h0
      have hit2 := Lib.iterAt_heap wr w.heap.size s pos (pos + 1) hit
      have hbw2 := Lib.below_iterAt hbw (k := w.heap.size) (Nat.le_refl _) s (pos + 1)
      have hsz2 : w.heap.size < (wr.iterAt w.heap.size s (pos + 1)).heap.size := by rw [Lib.iterAt_size]; exact hsz
      obtain ⟨W, hW⟩ : ∃ W, W = wr.iterAt w.heap.size s (pos + 1) := ⟨_, rfl⟩
      rw [← hW] at hit2 hbw2 hsz2 hnx
      clear hW
      go_wp2
      obtain ⟨wo, rfl⟩ : ∃ wo : World, wo = wr := ⟨_, rfl⟩
      go_loopw [] (fun wi => ∃ (q : Nat), wi.heap[W.heap.size]? = some (.stringIter set q) ∧ wi.heap[w.heap.size]? = some (.stringIter s (pos + 1)) ∧ Below w.heap.size w wi ∧ q ≤ set.size ∧ (set.toList.take q).any (fun d => (d.toNat : Int) == ((s[pos]'hlt).toNat : Int)) = false) (fun wi => set.size - wi.iterPos W.heap.size)
      case atStart =>
        exact ⟨0, World.iter_heap W set 0, (Below.heap_alloc W _ _ hsz2).trans hit2, hbw2.alloc (by omega) _, Nat.zero_le _, rfl⟩
      case round =>
        obtain ⟨q, hiq, hip, hbi, hq, hnq⟩ := hrel
        have hszq : W.heap.size < wr.heap.size := (Array.getElem?_eq_some_iff.1 hiq).1
        clear hnx
        by_cases hlq : q < set.size
        · have hnx : ∀ ty, (Instr.next (.pointer (some ⟨W.heap.size, 0, none⟩)) true ty).run Tryd.prog wr = .ok (.tuple #[.bool true, .int .i64 q, .int .i32 ((set[q]'hlq).toNat : Int)]) (wr.iterAt W.heap.size set (q + 1)) := fun ty => by
            have h0 := Lib.run_next_any_at (P := Tryd.prog) wr W.heap.size set q ty hiq hlq
            rw [decode_ascii set q hlq (ha q hlq)] at h0
            exact h0
          have hbi2 := Lib.below_iterAt hbi (k := W.heap.size) (by omega) set (q + 1)
          have hip2 := (Lib.iterAt_other wr W.heap.size w.heap.size set (q + 1) (by omega)).trans hip
          by_cases hc : (((s[pos]'hlt).toNat : Int) == ((set[q]'hlq).toNat : Int)) = true
          · go_wp2
            go_ret
            refine ⟨?_, hbi2⟩
            have hin : inB set (s[pos]'hlt) = true := by
              unfold inB inSet
              rw [List.any_eq_true]
              refine ⟨set[q]'hlq, ?_, by rw [beq_iff_eq] at hc ⊢; exact hc.symm⟩
              rw [← getElem_toList set q hlq]
              exact List.getElem_mem _
            rw [placeOf_at s _ pos hlt hno hin]
            rfl
          · have hc' : (((s[pos]'hlt).toNat : Int) == ((set[q]'hlq).toNat : Int)) = false := by simpa using hc
            clear hc
            go_wp2
            go_roundw
            case rel =>
              refine ⟨q + 1, Lib.iterAt_heap wr W.heap.size set q _ hiq, hip2, hbi2, by omega, ?_⟩
              rw [take_next' set q hlq, List.any_append, hnq]
              simp only [List.any_cons, List.any_nil, Bool.or_false, Bool.false_or]
              rw [beq_eq_false_iff_ne] at hc' ⊢
              exact fun h => hc' h.symm
            case measure =>
              simp only [World.iterPos, Lib.iterAt_heap wr W.heap.size set q _ hiq, hiq]
              omega
        · have hnx : ∀ ty, (Instr.next (.pointer (some ⟨W.heap.size, 0, none⟩)) true ty).run Tryd.prog wr = _ := fun ty => Lib.run_next_end_at wr W.heap.size set q ty hiq hlq
          go_wp2
          go_roundw
          case rel =>
            refine ⟨pos + 1, hip, hbi, hlt, ?_⟩
            rw [List.take_of_length_le (by rw [len_toList]; omega)] at hnq
            rw [take_next' s pos hlt, List.any_append, hno]
            simp only [List.any_cons, List.any_nil, Bool.or_false, Bool.false_or]
            exact hnq
          case measure =>
            simp only [World.iterPos, hip, hit]
            omega
    · have hnx : ∀ ty, (Instr.next (.pointer (some ⟨w.heap.size, 0, none⟩)) true ty).run Tryd.prog wr = _ := fun ty => Lib.run_next_end_at wr w.heap.size s pos ty hit hlt
      go_wp2
      go_ret
      rw [List.take_of_length_le (by rw [len_toList]; omega)] at hno
      exact ⟨by rw [placeOf_no s _ hno]; rfl, hbw⟩

/-- Bytes below 128 alone. -/
def ascB (s : ByteArray) : Bool := s.toList.all (fun c => decide (c.toNat < 128))
theorem asc_of (s : ByteArray) (h : ascB s = true) : asc s := by
  intro i hi
  unfold ascB at h
  rw [List.all_eq_true] at h
  have := h (s[i]'hi) (by rw [← getElem_toList s i hi]; exact List.getElem_mem _)
  simpa using this
def semantic_zzIndexAny.f (a0 a1 : ByteArray) : Option Int := if ascB a0 = true ∧ ascB a1 = true ∧ a0.size ≤ 140737488351232 ∧ a1.size ≤ 140737488351232 then some (placeOf (inB a1) a0.toList) else none
theorem semantic_zzIndexAny.calls (a0 a1 : ByteArray) (r : Int) (w : World) (h : semantic_zzIndexAny.f a0 a1 = some r) :
    Calls Tryd.prog 76 #[.string a0, .string a1] w fun e w' => e = .returned (.int .i64 r) ∧ Below w.heap.size w w' := by
  unfold semantic_zzIndexAny.f at h
  split at h
  · next hc =>
    obtain rfl := Option.some.inj h
    exact indexAny_calls a0 a1 w (asc_of _ hc.1) (asc_of _ hc.2.1) hc.2.2.1 hc.2.2.2
  · exact absurd h (by simp)
end Go.Proofs.YtffcbcihnoaikaaDoor.Giv

namespace Go.Proofs.YtffcbcihnoaikaaDoor.Giv
open Go.RowKit Go.Proofs.YtffcbcihnoaikaaDoorW.PrintWords Go.Proofs.YtffcbcihnoaikaaDoorW.PrintLast Go.Proofs.YtffcbcihnoaikaaDoor.Pk Go.Proofs.YtffcbcihnoaikaaDoor.Ord
set_option linter.unusedVariables false
set_option linter.unusedSimpArgs false

theorem deb_infoStr : (Tryd.prog.info? 9).map (fun i => (i.zero, i.size, i.bytes)) = some (some (.string ⟨#[]⟩), 1, 16) := by kernel_rfl
/-- A text's bytes one by one. -/
def ones (l : List UInt8) : List ByteArray := l.map fun c => bs [c]
theorem ones_len (l : List UInt8) : (ones l).length = l.length := by simp [ones]
theorem ones_next (s : ByteArray) (k : Nat) (h : k < s.size) : ones (s.toList.take (k + 1)) = ones (s.toList.take k) ++ [s.extract k (k + 1)] := by
  have e : s.extract k (k + 1) = bs [s[k]'h] := bs_eq (by
    rw [ext_toList, drop_at s k h, show k + 1 - k = 1 by omega, List.take_succ_cons, List.take_zero])
  rw [e, take_next' s k h]
  unfold ones
  rw [List.map_append]
  rfl
set_option maxRecDepth 100000 in
set_option maxHeartbeats 4000000 in
theorem splitE_calls (s : ByteArray) (hs : asc s) (hz : s.size ≤ 1000000) (w : World) :
    Calls Tryd.prog 65 #[.string s, .string ⟨#[]⟩] w fun e w' => ∃ v0_ : Value, e = .returned v0_ ∧ Kd.R Kd.string 9 w' w.heap.size (fun _ => True) v0_ (ones s.toList) ∧ Below w.heap.size w w' := by
  go_enter Tryd.func65, Tryd.ntmps65
  go_wp2_with fail
  go_loopw [5, 6] (fun v5 v6 wr => ∃ (pos : Nat), v6 = .int .i64 ((pos - 1 : Nat) : Int) ∧ wr.heap[w.heap.size]? = some (.stringIter s pos) ∧ Below w.heap.size w wr ∧ pos ≤ s.size ∧ Kd.R Kd.string 9 wr w.heap.size (fun k => k ≠ w.heap.size) v5 (ones (s.toList.take (pos - 1)))) (fun v5 v6 wr => s.size - wr.iterPos w.heap.size)
  case atStart => exact ⟨0, rfl, World.iter_heap w s 0, (Below.refl _ w).alloc (Nat.le_refl _) _, Nat.zero_le _, Kd.R_nil _ _ _ _ _⟩
  case round =>
    obtain ⟨pos, rfl, hit, hbw, hp, ho⟩ := hrel
    have hsz : w.heap.size < wr.heap.size := (Array.getElem?_eq_some_iff.1 hit).1
    have lo : (ones (s.toList.take (pos - 1))).length ≤ 1000000 := by rw [ones_len, List.length_take, len_toList]; omega
    by_cases hlt : pos < s.size
    · have hnx : ∀ ty, (Instr.next (.pointer (some ⟨w.heap.size, 0, none⟩)) true ty).run Tryd.prog wr = .ok (.tuple #[.bool true, .int .i64 pos, .int .i32 ((s[pos]'hlt).toNat : Int)]) (wr.iterAt w.heap.size s (pos + 1)) := fun ty => by
        have h0 := Lib.run_next_any_at (P := Tryd.prog) wr w.heap.size s pos ty hit hlt
        rw [decode_ascii s pos hlt (hs pos hlt)] at h0
        exact h0
      have HI := Aside0.mk hit
      have hit2 := Aside0.mk (Lib.iterAt_heap wr w.heap.size s pos (pos + 1) hit)
      have hbw2 := Aside0.mk (Lib.below_iterAt hbw (k := w.heap.size) (Nat.le_refl _) s (pos + 1))
      have HO := Aside0.mk (show Kd.R Kd.string 9 (wr.iterAt w.heap.size s (pos + 1)) w.heap.size (fun k => k ≠ w.heap.size) u5 (ones (s.toList.take (pos - 1))) from Kd.R_step ho (fun k hk _ => Lib.iterAt_other wr w.heap.size k s (pos + 1) hk))
      have hsz2 := Aside0.mk (show w.heap.size < (wr.iterAt w.heap.size s (pos + 1)).heap.size by rw [Lib.iterAt_size]; exact hsz)
      have lim := Aside0.mk (show ((ones (s.toList.take (pos - 1))).length + 1) * 16 ≤ 140737488355328 by omega)
      by_cases h0 : pos = 0
      · subst h0
        clear hit hbw hp ho hsz lo
        go_wp2_with fail
        go_roundw
        case rel => exact ⟨1, rfl, hit2.out, hbw2.out, hlt, HO.out⟩
        case measure =>
          simp only [World.iterPos, hit2.out, HI.out]
          omega
      · have f1 : (0 : Int) < (pos : Int) := by omega
        have f2 : ((pos - 1 : Nat) : Int) ≤ (pos : Int) := by omega
        have f3 : (pos : Int) ≤ (s.size : Int) := by omega
        have f6 : pos - 1 ≤ pos := by omega
        have f7 : pos ≤ s.size := hp
        have Q := Aside0.mk (show ones (s.toList.take (pos - 1)) ++ [s.extract (pos - 1) pos] = ones (s.toList.take (pos + 1 - 1)) by
          have := ones_next s (pos - 1) (by omega)
          rw [show pos - 1 + 1 = pos by omega] at this
          rw [← this, show pos + 1 - 1 = pos by omega])
        obtain ⟨W, eW⟩ : ∃ W, W = wr.iterAt w.heap.size s (pos + 1) := ⟨_, rfl⟩
        rw [← eW] at hit2 hbw2 HO hsz2 hnx
        clear hit hbw hp ho hsz lo h0 eW
        go_wp2_with (first | ((with_reducible refine gate_builtin (b := .append) (xs := #[.tmp 19, .tmp 24]) rfl ?_); at_builtin; refine Kd.R_append Kd.string (w0 := w) w.heap.size rfl (.tmp 19) (.tmp 24) 34 9 (.string ⟨#[]⟩) 16 rfl Tryd.underlying34 deb_infoStr rfl (by decide) (by omega) u5 (ones (s.toList.take (pos - 1))) (s.extract (pos - 1) pos) [.string (s.extract (pos - 1) pos)] (fun k => k ≠ w.heap.size) (fun _ => False) rfl rfl ?aP (fun _ hk => hk.elim) ?aF ?aO ?aB ?aS ?aL ?_; (case aP => exact rfl); (case aF => exact (fun k hk => Nat.ne_of_gt (Nat.lt_of_lt_of_le hsz2.out hk))); (case aO => exact HO.out); (case aB => exact hbw2.out); (case aS => exact Nat.le_of_lt hsz2.out); (case aL => exact lim.out); intro v5 w5 ho hb hg hat; have HO2 := Aside0.mk ho; have BL2 := Aside0.mk hb; have IT := Aside0.mk ((hg.block w.heap.size hsz2.out (fun e => HO.out.1 w.heap.size e.symm rfl)).trans hit2.out); clear ho hb hg hat))
        go_roundw
        case rel => exact ⟨pos + 1, rfl, IT.out, BL2.out, hlt, by rw [← Q.out]; exact HO2.out⟩
        case measure =>
          simp only [World.iterPos, IT.out, HI.out]
          omega
    · have hnx : ∀ ty, (Instr.next (.pointer (some ⟨w.heap.size, 0, none⟩)) true ty).run Tryd.prog wr = _ := fun ty => Lib.run_next_end_at wr w.heap.size s pos ty hit hlt
      have hpe : pos = s.size := by omega
      have HO := Aside0.mk ho
      have BL := Aside0.mk hbw
      have BS := Aside0.mk hbw.size
      have SZ := Aside0.mk hsz
      have lim := Aside0.mk (show ((ones (s.toList.take (pos - 1))).length + 1) * 16 ≤ 140737488355328 by omega)
      by_cases h0 : s.size = 0
      · have f1 : ¬ (0 : Int) < (s.size : Int) := by omega
        have Q := Aside0.mk (show ones (s.toList.take (pos - 1)) = ones s.toList by
          rw [List.take_of_length_le (by rw [len_toList]; omega)])
        clear hit hbw hp ho hsz lo h0 hpe
        go_wp2_with fail
        go_ret
        exact ⟨_, rfl, by rw [← Q.out]; exact Kd.R_mono HO.out (fun _ _ => trivial), BL.out⟩
      · have f1 : (0 : Int) < (s.size : Int) := by omega
        have f2 : ((pos - 1 : Nat) : Int) ≤ (s.size : Int) := by omega
        have f6 : pos - 1 ≤ s.size := by omega
        have Q := Aside0.mk (show ones (s.toList.take (pos - 1)) ++ [s.extract (pos - 1) s.size] = ones s.toList by
          have := ones_next s (pos - 1) (by omega)
          rw [show pos - 1 + 1 = s.size by omega] at this
          rw [← this, List.take_of_length_le (by rw [len_toList]; omega)])
        clear hit hbw hp ho hsz lo h0 hpe
        go_wp2_with (first | ((with_reducible refine gate_builtin (b := .append) (xs := #[.tmp 30, .tmp 34]) rfl ?_); at_builtin; refine Kd.R_append Kd.string (w0 := w) w.heap.size rfl (.tmp 30) (.tmp 34) 34 9 (.string ⟨#[]⟩) 16 rfl Tryd.underlying34 deb_infoStr rfl (by decide) (by omega) u5 (ones (s.toList.take (pos - 1))) (s.extract (pos - 1) s.size) [.string (s.extract (pos - 1) s.size)] (fun k => k ≠ w.heap.size) (fun _ => False) rfl rfl ?aP (fun _ hk => hk.elim) ?aF ?aO ?aB ?aS ?aL ?_; (case aP => exact rfl); (case aF => exact (fun k hk => Nat.ne_of_gt (Nat.lt_of_lt_of_le SZ.out hk))); (case aO => exact HO.out); (case aB => exact BL.out); (case aS => exact BS.out); (case aL => exact lim.out); intro v5 w5 ho hb hg hat; have HO2 := Aside0.mk ho; have BL2 := Aside0.mk hb; clear ho hb hg hat))
        go_ret
        exact ⟨_, rfl, by rw [← Q.out]; exact Kd.R_mono HO2.out (fun _ _ => trivial), BL2.out⟩
end Go.Proofs.YtffcbcihnoaikaaDoor.Giv

namespace Go.Proofs.YtffcbcihnoaikaaDoor.Giv
open Go.RowKit Go.Proofs.YtffcbcihnoaikaaDoorW.PrintWords Go.Proofs.YtffcbcihnoaikaaDoorW.PrintLast Go.Proofs.YtffcbcihnoaikaaDoor.Pk Go.Proofs.YtffcbcihnoaikaaDoor.Ord Go.Proofs.YtffcbcihnoaikaaDoor.QM
set_option linter.unusedVariables false
set_option linter.unusedSimpArgs false

theorem wd0 : ws (wd 0) = [] := by
  unfold wd
  rw [show (0 : Int).natAbs = 0 from rfl, Dg.dg_zero]
  rfl
theorem isBig0 (w : World) : IsBig (w.alloc (.cells #[.bool false, .slice none 0 0] 80)) w.heap.size 0 := by
  unfold IsBig
  rw [wd0]
  exact ⟨none, 0, blk_new _ _, Nat.le_refl _, Nat.zero_le _, Kd.C_nil _ _, fun a e => by cases e⟩
set_option maxHeartbeats 1000000 in
theorem newInt0_calls (w : World) : Calls Tryd.prog 28 #[.int .i64 0] w fun e w' => ∃ b, e = .returned (.pointer (some ⟨b, 0, none⟩)) ∧ IsBig w' b 0 ∧ Below w.heap.size w w' := by
  go_enter Tryd.func28, Tryd.ntmps28
  go_wp2_with fail
  go_ret
  exact ⟨_, rfl, isBig0 _, below_alloc (Below.refl _ _) _⟩
/-- No digit. -/
def noDig (c : UInt8) : Bool := !Rpm.dig c
def noDigI (n : Int) : Bool := decide (n < 48 ∨ 57 < n)
theorem noDigI_b (c : UInt8) : noDigI (c.toNat : Int) = noDig c := by
  unfold noDigI noDig Rpm.dig
  rw [Bool.eq_iff_iff]
  simp
  omega
theorem debLit_calls (n : Int) (w : World) : Calls Tryd.prog 78 #[.int .i32 n] w fun e w' => e = .returned (.bool (noDigI n)) ∧ w' = w := by
  by_cases h1 : n < (48 : Int)
  · have e : noDigI n = true := by unfold noDigI; simp [h1]
    rw [e]
    clear e
    go_enter Tryd.func78, Tryd.ntmps78
    go_wp2
    go_ret
    exact ⟨rfl, rfl⟩
  · by_cases h2 : (57 : Int) < n
    · have e : noDigI n = true := by unfold noDigI; simp [h2]
      rw [e]
      clear e
      go_enter Tryd.func78, Tryd.ntmps78
      go_wp2
      go_ret
      exact ⟨by simp [h2], rfl⟩
    · have e : noDigI n = false := by unfold noDigI; simp; omega
      rw [e]
      clear e
      go_enter Tryd.func78, Tryd.ntmps78
      go_wp2
      go_ret
      exact ⟨by simp [h2], rfl⟩
set_option maxHeartbeats 2000000 in
set_option maxRecDepth 100000 in
theorem indexFn_calls (s : ByteArray) (w : World) (hs : asc s) (hz : s.size ≤ 140737488351232) :
    Calls Tryd.prog 69 #[.string s, .func (.func 78) #[] #[], .bool true] w fun e w' => e = .returned (.int .i64 (placeOf noDig s.toList)) ∧ Below w.heap.size w w' := by
  go_enter Tryd.func69, Tryd.ntmps69
  go_wp2_with fail
  go_loopw [] (fun wr => ∃ (pos : Nat), wr.heap[w.heap.size]? = some (.stringIter s pos) ∧ Below w.heap.size w wr ∧ pos ≤ s.size ∧ (s.toList.take pos).any noDig = false) (fun wr => s.size - wr.iterPos w.heap.size)
  case atStart =>
    exact ⟨0, World.iter_heap w s 0, (Below.refl _ w).alloc (Nat.le_refl _) _, Nat.zero_le _, rfl⟩
  case round =>
    obtain ⟨pos, hit, hbw, hp, hno⟩ := hrel
    have hsz : w.heap.size < wr.heap.size := (Array.getElem?_eq_some_iff.1 hit).1
    by_cases hlt : pos < s.size
    · have hnx : ∀ ty, (Instr.next (.pointer (some ⟨w.heap.size, 0, none⟩)) true ty).run Tryd.prog wr = .ok (.tuple #[.bool true, .int .i64 pos, .int .i32 ((s[pos]'hlt).toNat : Int)]) (wr.iterAt w.heap.size s (pos + 1)) := fun ty => by
        have h0 := Lib.run_next_any_at (P := Tryd.prog) wr w.heap.size s pos ty hit hlt
        rw [decode_ascii s pos hlt (hs pos hlt)] at h0
        exact h0
      have HI := Aside0.mk hit
      have hit2 := Aside0.mk (Lib.iterAt_heap wr w.heap.size s pos (pos + 1) hit)
      have hbw2 := Aside0.mk (Lib.below_iterAt hbw (k := w.heap.size) (Nat.le_refl _) s (pos + 1))
      by_cases hc : noDig (s[pos]'hlt) = true
      · have ct : ∀ w', Calls Tryd.prog 78 #[.int .i32 (((s[pos]'hlt).toNat : Nat) : Int)] w' fun e w'' => e = .returned (.bool true) ∧ w'' = w' := fun w' => (debLit_calls _ w').mono (by rintro e w2 ⟨rfl, rfl⟩; rw [noDigI_b, hc]; exact ⟨rfl, rfl⟩)
        have P := Aside0.mk (placeOf_at s noDig pos hlt hno hc)
        clear hit hbw hno hp hc hs hz
        go_wp2_with (first | (go_at_call 78; (with_reducible refine (ct _).mono ?_); rintro e w1 ⟨rfl, rfl⟩))
        go_ret
        exact ⟨by rw [P.out]; rfl, hbw2.out⟩
      · have hc' : noDig (s[pos]'hlt) = false := by simpa using hc
        have ct : ∀ w', Calls Tryd.prog 78 #[.int .i32 (((s[pos]'hlt).toNat : Nat) : Int)] w' fun e w'' => e = .returned (.bool false) ∧ w'' = w' := fun w' => (debLit_calls _ w').mono (by rintro e w2 ⟨rfl, rfl⟩; rw [noDigI_b, hc']; exact ⟨rfl, rfl⟩)
        have N := Aside0.mk (show (s.toList.take (pos + 1)).any noDig = false by
          rw [take_next' s pos hlt, List.any_append, hno]
          simp [hc'])
        clear hit hbw hno hp hc hc' hs hz
        go_wp2_with (first | (go_at_call 78; (with_reducible refine (ct _).mono ?_); rintro e w1 ⟨rfl, rfl⟩))
        go_roundw
        case rel => exact ⟨pos + 1, hit2.out, hbw2.out, hlt, N.out⟩
        case measure =>
          simp only [World.iterPos, hit2.out, HI.out]
          omega
    · have hnx : ∀ ty, (Instr.next (.pointer (some ⟨w.heap.size, 0, none⟩)) true ty).run Tryd.prog wr = _ := fun ty => Lib.run_next_end_at wr w.heap.size s pos ty hit hlt
      rw [List.take_of_length_le (by rw [len_toList]; omega)] at hno
      have N := Aside0.mk (placeOf_no s noDig hno)
      have B := Aside0.mk hbw
      clear hit hbw hno hp hs hz
      go_wp2_with fail
      go_ret
      exact ⟨by rw [N.out]; rfl, B.out⟩
theorem indexFunc_calls (s : ByteArray) (w : World) (hs : asc s) (hz : s.size ≤ 140737488351232) :
    Calls Tryd.prog 77 #[.string s, .func (.func 78) #[] #[]] w fun e w' => e = .returned (.int .i64 (placeOf noDig s.toList)) ∧ Below w.heap.size w w' := by
  have c := indexFn_calls s w hs hz
  clear hs hz
  go_enter Tryd.func77, Tryd.ntmps77
  go_wp2_with (first | (go_at_call 69; (with_reducible refine c.mono ?_); rintro e w1 ⟨rfl, h1⟩))
  go_ret
  exact ⟨rfl, h1⟩
theorem place_tw (l : List UInt8) : placeOf noDig l = if (l.takeWhile Rpm.dig).length = l.length then -1 else ((l.takeWhile Rpm.dig).length : Int) := by
  have key : ∀ l : List UInt8, (l.any noDig = false ↔ (l.takeWhile Rpm.dig).length = l.length) ∧ (l.any noDig = true → l.findIdx noDig = (l.takeWhile Rpm.dig).length) := by
    intro l
    induction l with
    | nil => exact ⟨⟨fun _ => rfl, fun _ => rfl⟩, fun h => absurd h (by simp)⟩
    | cons c r ih =>
      cases hd : Rpm.dig c with
      | true =>
        have hn : noDig c = false := by unfold noDig; rw [hd]; rfl
        rw [List.any_cons, hn, Bool.false_or, List.takeWhile_cons_of_pos hd, List.findIdx_cons, hn]
        refine ⟨by rw [ih.1]; simp, fun h => ?_⟩
        simp [ih.2 h]
      | false =>
        have hn : noDig c = true := by unfold noDig; rw [hd]; rfl
        rw [List.any_cons, hn, Bool.true_or, List.takeWhile_cons_of_neg (by simp [hd]), List.findIdx_cons, hn]
        exact ⟨by simp, fun _ => by simp⟩
  unfold placeOf
  cases h : l.any noDig with
  | false => rw [if_neg (by simp), if_pos ((key l).1.1 h)]
  | true =>
    rw [if_pos rfl, (key l).2 h, if_neg (fun e => by rw [(key l).1.2 e] at h; exact absurd h (by simp))]
theorem parse_dg {l : List UInt8} (h0 : l ≠ []) (hd : l.all Rpm.dig = true) : Num.parse l = some (Num.dec l : Int) := by
  cases l with
  | nil => exact absurd rfl h0
  | cons c r =>
    have hc : Rpm.dig c = true := by rw [List.all_cons, Bool.and_eq_true] at hd; exact hd.1
    have e : Num.cutSign (c :: r) = (false, c :: r) := by
      unfold Rpm.dig at hc
      have hc := of_decide_eq_true hc
      show (if c.toNat = 45 then (true, r) else if c.toNat = 43 then (false, r) else (false, c :: r)) = _
      rw [if_neg (by omega), if_neg (by omega)]
    unfold Num.parse
    rw [e]
    have dd : Num.digits (c :: r) = true := by unfold Num.digits; rw [hd]; rfl
    rw [if_pos dd]
    rfl
set_option maxHeartbeats 4000000 in
set_option maxRecDepth 100000 in
/-- The digits that a text begins with, as a number, and what is left. -/
theorem splitDig_calls (s : ByteArray) (w : World) (hs : asc s) (hz : s.size ≤ 40000) (hL : Laid w) :
    Calls Tryd.prog 68 #[.string s] w fun e w' => ∃ b, e = .returned (.tuple #[.pointer (some ⟨b, 0, none⟩), .string (bs (s.toList.dropWhile Rpm.dig)), .nilIface]) ∧ IsBig w' b (Num.dec (s.toList.takeWhile Rpm.dig)) ∧ Below w.heap.size w w' := by
  have c := indexFunc_calls s w hs (by omega)
  rw [place_tw, len_toList] at c
  have tl := tw_le Rpm.dig s.toList
  rw [len_toList] at tl
  by_cases h0 : s.toList.takeWhile Rpm.dig = []
  · have hd : s.toList.dropWhile Rpm.dig = s.toList := by
      have := List.takeWhile_append_dropWhile (p := Rpm.dig) (l := s.toList)
      rw [h0, List.nil_append] at this
      exact this
    rw [hd, h0, ← bs_of]
    rw [h0] at c
    clear hd h0 tl
    by_cases he : s.size = 0
    · obtain rfl : s = ⟨#[]⟩ := eq_of_toList ((List.length_eq_zero_iff.1 (by rw [len_toList]; exact he)).trans (by rw [toList_eq']))
      rw [if_pos (show ([] : List UInt8).length = (⟨#[]⟩ : ByteArray).size from rfl)] at c
      clear he hs hz hL
      go_enter Tryd.func68, Tryd.ntmps68
      go_wp2_with (first | (go_at_call 77; (with_reducible refine c.mono ?_); rintro e w1 ⟨rfl, h1⟩; have H1 := Aside0.mk h1; clear h1) | (go_at_call 28; (with_reducible refine (newInt0_calls _).mono ?_); rintro e w2 ⟨b, rfl, hb, h2⟩; have HB := Aside0.mk hb; have H2 := Aside0.mk (below_then H1.out H1.out.size h2); clear hb h2))
      exact bodyPost_ret (results_list (rs := [.tmp 2, .tmp 3, .tmp 4]) rfl (by simp) (.tmp (.tmp (.tmp .nil)))) rfl ⟨b, rfl, HB.out, H2.out⟩
    · rw [if_neg (show ¬ ([] : List UInt8).length = s.size from fun e => he e.symm)] at c
      have n0 : ([] : List UInt8).length = 0 := rfl
      rw [n0] at c
      clear he hs hz hL n0
      go_enter Tryd.func68, Tryd.ntmps68
      go_wp2_with (first | (go_at_call 77; (with_reducible refine c.mono ?_); rintro e w1 ⟨rfl, h1⟩; have H1 := Aside0.mk h1; clear h1) | (go_at_call 28; (with_reducible refine (newInt0_calls _).mono ?_); rintro e w2 ⟨b, rfl, hb, h2⟩; have HB := Aside0.mk hb; have H2 := Aside0.mk (below_then H1.out H1.out.size h2); clear hb h2))
      exact bodyPost_ret (results_list (rs := [.tmp 2, .tmp 3, .tmp 4]) rfl (by simp) (.tmp (.tmp (.tmp .nil)))) rfl ⟨b, rfl, HB.out, H2.out⟩
  · obtain ⟨k, ek⟩ : ∃ k, k = (s.toList.takeWhile Rpm.dig).length := ⟨_, rfl⟩
    have kp : 0 < k := by rw [ek]; exact List.length_pos_iff.2 h0
    have al : (s.toList.takeWhile Rpm.dig).all Rpm.dig = true := List.all_takeWhile
    have hp := parse_dg h0 al
    have eh : s.extract 0 k = bs (s.toList.takeWhile Rpm.dig) := bs_eq (by rw [ext_head, ek, take_tw])
    have et : s.extract k s.size = bs (s.toList.dropWhile Rpm.dig) := bs_eq (by rw [ext_all, ek, drop_tw])
    have sz : (s.extract 0 k).size ≤ 40000 := by rw [eh, bs_size]; omega
    have ps : Num.parse (s.extract 0 k).toList = some (Num.dec (s.toList.takeWhile Rpm.dig) : Int) := by rw [eh, bs_toList]; exact hp
    have cv := fun (w' : World) (hb' : Below w.heap.size w w') => conv_some (s.extract 0 k) w' _ sz (hL.below hb') ps
    rw [← ek] at c tl
    generalize (Num.dec (s.toList.takeWhile Rpm.dig) : Int) = z at *
    have ET := Aside0.mk et
    have f2 : k ≤ s.size := tl
    have f1 : (k : Int) ≤ (s.size : Int) := Int.ofNat_le.2 tl
    have f3 : ((k : Int) == 0) = false := beq_eq_false_iff_ne.2 (by omega)
    have f5 : ((k : Int) == -1) = false := beq_eq_false_iff_ne.2 (by omega)
    have f4 : s.toList.isEmpty = false := by
      cases hh : s.toList with
      | nil => rw [hh] at h0; exact absurd rfl h0
      | cons c r => rfl
    have e9 : s.extract 0 s.size = s := eq_of_toList (by rw [ext_head, List.take_of_length_le (by rw [len_toList]; exact Nat.le_refl _)])
    by_cases he : k = s.size
    · rw [if_pos he] at c
      have RK := Aside0.mk he
      subst he
      rw [e9] at cv
      have EE := Aside0.mk (show bs (s.toList.dropWhile Rpm.dig) = ⟨#[]⟩ by
        rw [← et]
        exact eq_of_toList (by rw [ext_toList, List.drop_of_length_le (by rw [len_toList]; exact Nat.le_refl _), List.take_nil, toList_eq']))
      clear h0 al hp eh et sz ps hs hL ek tl e9
      go_enter Tryd.func68, Tryd.ntmps68
      go_wp2_with (first | (go_at_call 77; (with_reducible refine c.mono ?_); rintro e w1 ⟨rfl, h1⟩; have H1 := Aside0.mk h1; have CV := Aside0.mk (cv w1 h1); clear h1) | (go_at_call 31; (with_reducible refine CV.out.mono ?_); rintro e w2 ⟨b, rfl, hb, h2⟩; have HB := Aside0.mk hb; have H2 := Aside0.mk (below_then H1.out H1.out.size h2); clear hb h2))
      go_region
      all_goals
        go_wp2_with fail
        exact bodyPost_ret (results_list (rs := [.tmp 2, .tmp 3, .tmp 4]) rfl (by simp) (.tmp (.tmp (.tmp .nil)))) rfl ⟨b, by rw [EE.out]; rfl, HB.out.below (Below.drew (Below.refl _ _)), Below.drew H2.out⟩
    · rw [if_neg he] at c
      clear h0 al hp eh et sz ps hs hL ek tl e9 he
      go_enter Tryd.func68, Tryd.ntmps68
      go_wp2_with (first | (go_at_call 77; (with_reducible refine c.mono ?_); rintro e w1 ⟨rfl, h1⟩; have H1 := Aside0.mk h1; have CV := Aside0.mk (cv w1 h1); clear h1) | (go_at_call 31; (with_reducible refine CV.out.mono ?_); rintro e w2 ⟨b, rfl, hb, h2⟩; have HB := Aside0.mk hb; have H2 := Aside0.mk (below_then H1.out H1.out.size h2); clear hb h2))
      go_region
      all_goals
        go_wp2_with fail
        exact bodyPost_ret (results_list (rs := [.tmp 2, .tmp 3, .tmp 4]) rfl (by simp) (.tmp (.tmp (.tmp .nil)))) rfl ⟨b, by rw [← ET.out]; rfl, HB.out.below (Below.drew (Below.refl _ _)), Below.drew H2.out⟩
end Go.Proofs.YtffcbcihnoaikaaDoor.Giv

namespace Go.Proofs.YtffcbcihnoaikaaDoor.Giv
open Go.RowKit Go.Proofs.YtffcbcihnoaikaaDoorW.PrintWords Go.Proofs.YtffcbcihnoaikaaDoorW.PrintLast Go.Proofs.YtffcbcihnoaikaaDoor.Pk Go.Proofs.YtffcbcihnoaikaaDoor.Ord Go.Proofs.YtffcbcihnoaikaaDoor.QM
set_option linter.unusedVariables false
set_option linter.unusedSimpArgs false

/-- Bytes below 128, none 0, not too many. -/
def okB (l : List UInt8) : Bool := decide (l.length ≤ 40000) && l.all (fun c => decide (c.toNat < 128 ∧ c.toNat ≠ 0))
theorem okB_len {l : List UInt8} (h : okB l = true) : l.length ≤ 40000 := by
  unfold okB at h
  rw [Bool.and_eq_true] at h
  exact of_decide_eq_true h.1
theorem okB_mem {l : List UInt8} (h : okB l = true) : ∀ c ∈ l, c.toNat < 128 ∧ c.toNat ≠ 0 := by
  unfold okB at h
  rw [Bool.and_eq_true, List.all_eq_true] at h
  exact fun c hc => of_decide_eq_true (h.2 c hc)
theorem okB_sub {l m : List UInt8} (h : okB l = true) (hs : m.Sublist l) : okB m = true := by
  unfold okB
  rw [Bool.and_eq_true, List.all_eq_true]
  exact ⟨decide_eq_true (Nat.le_trans hs.length_le (okB_len h)), fun c hc => decide_eq_true (okB_mem h c (hs.subset hc))⟩
theorem nd_sub (l : List UInt8) : (Deb.nd l).Sublist l := List.takeWhile_sublist _
theorem nr_sub (l : List UInt8) : (Deb.nr l).Sublist l := List.dropWhile_sublist _
theorem rest_sub (l : List UInt8) : (Deb.rest l).Sublist l := (List.dropWhile_sublist _).trans (nr_sub l)
theorem asc_bs {l : List UInt8} (h : okB l = true) : asc (bs l) := by
  intro i hi
  have m := List.getElem_mem (l := (bs l).toList) (n := i) (by rw [len_toList]; exact hi)
  rw [getElem_toList (bs l) i hi] at m
  have m2 : ∀ x, x ∈ (bs l).toList → x ∈ l := by rw [bs_toList]; exact fun _ h => h
  exact (okB_mem h _ (m2 _ m)).1
theorem inB_dig (c : UInt8) : inB ⟨#[48, 49, 50, 51, 52, 53, 54, 55, 56, 57]⟩ c = Rpm.dig c := by
  rw [Bool.eq_iff_iff, inB_iff, toList_eq']
  unfold Rpm.dig
  simp only [List.mem_cons, List.not_mem_nil, or_false, decide_eq_true_eq, ← UInt8.toNat_inj]
  simp
  omega
theorem asc_digs : asc ⟨#[48, 49, 50, 51, 52, 53, 54, 55, 56, 57]⟩ := asc_of _ (by unfold ascB; rw [toList_eq']; decide)
theorem place_nd (l : List UInt8) : placeOf Rpm.dig l = if (Deb.nd l).length = l.length then -1 else ((Deb.nd l).length : Int) := by
  have key : ∀ l : List UInt8, (l.any Rpm.dig = false ↔ (Deb.nd l).length = l.length) ∧ (l.any Rpm.dig = true → l.findIdx Rpm.dig = (Deb.nd l).length) := by
    intro l
    unfold Deb.nd
    induction l with
    | nil => exact ⟨⟨fun _ => rfl, fun _ => rfl⟩, fun h => absurd h (by simp)⟩
    | cons c r ih =>
      cases hd : Rpm.dig c with
      | false =>
        rw [List.any_cons, hd, Bool.false_or, List.takeWhile_cons_of_pos (by simp [hd]), List.findIdx_cons, hd]
        refine ⟨by rw [ih.1]; simp, fun h => ?_⟩
        simp [ih.2 h]
      | true =>
        rw [List.any_cons, hd, Bool.true_or, List.takeWhile_cons_of_neg (by simp [hd]), List.findIdx_cons, hd]
        exact ⟨by simp, fun _ => by simp⟩
  unfold placeOf
  cases h : l.any Rpm.dig with
  | false => rw [if_neg (by simp), if_pos ((key l).1.1 h)]
  | true =>
    rw [if_pos rfl, (key l).2 h, if_neg (fun e => by rw [(key l).1.2 e] at h; exact absurd h (by simp))]
set_option maxHeartbeats 4000000 in
set_option maxRecDepth 100000 in
/-- What stands ahead of digits, and what is left. -/
theorem splitNon_calls (l : List UInt8) (w : World) (h : okB l = true) :
    Calls Tryd.prog 64 #[.string (bs l)] w fun e w' => e = .returned (.tuple #[.string (bs (Deb.nd l)), .string (bs (Deb.nr l))]) ∧ Below w.heap.size w w' := by
  have c := indexAny_calls (bs l) ⟨#[48, 49, 50, 51, 52, 53, 54, 55, 56, 57]⟩ w (asc_bs h) asc_digs (by rw [bs_size]; have := okB_len h; omega) (by decide)
  rw [show inB ⟨#[48, 49, 50, 51, 52, 53, 54, 55, 56, 57]⟩ = Rpm.dig from funext inB_dig, bs_toList, place_nd] at c
  have tl := tw_le (fun c => !Rpm.dig c) l
  have eh : (bs l).extract 0 (Deb.nd l).length = bs (Deb.nd l) := by
    rw [bs_extHead]
    exact congrArg bs (take_tw _ l)
  have et : (bs l).extract (Deb.nd l).length (bs l).size = bs (Deb.nr l) := by
    rw [bs_extAll]
    exact congrArg bs (drop_tw _ l)
  have hh : (Deb.nd l).length = 0 → Deb.nd l = [] ∧ Deb.nr l = l := fun e => by
    have e0 : Deb.nd l = [] := List.length_eq_zero_iff.1 e
    have := List.takeWhile_append_dropWhile (p := fun c => !Rpm.dig c) (l := l)
    have e1 : Deb.nd l ++ Deb.nr l = l := this
    rw [e0, List.nil_append] at e1
    exact ⟨e0, e1⟩
  have ha : (Deb.nd l).length = l.length → Deb.nd l = l ∧ Deb.nr l = [] := fun e => by
    have e1 : Deb.nd l ++ Deb.nr l = l := List.takeWhile_append_dropWhile
    have := congrArg List.length e1
    rw [List.length_append] at this
    have e2 : Deb.nr l = [] := List.length_eq_zero_iff.1 (by omega)
    rw [e2, List.append_nil] at e1
    exact ⟨e1, e2⟩
  have tl : (Deb.nd l).length ≤ l.length := tl
  obtain ⟨p, ep⟩ : ∃ p, p = Deb.nd l := ⟨_, rfl⟩
  obtain ⟨q, eq⟩ : ∃ q, q = Deb.nr l := ⟨_, rfl⟩
  rw [← ep, ← eq] at hh ha
  rw [← ep] at c eh et tl
  rw [← eq] at et
  rw [← ep, ← eq]
  clear ep eq h
  obtain ⟨s, es⟩ : ∃ s, s = bs l := ⟨_, rfl⟩
  have sl : s.toList = l := by rw [es, bs_toList]
  have sz : s.size = l.length := by rw [es, bs_size]
  rw [← es] at c eh et ⊢
  by_cases h0 : p.length = 0
  · obtain ⟨rfl, rfl⟩ := hh h0
    by_cases he : q.length = 0
    · obtain rfl : q = [] := List.length_eq_zero_iff.1 he
      rw [if_pos rfl] at c
      have f4 : s.toList.isEmpty = true := by rw [sl]; rfl
      have ES := Aside0.mk es
      clear es hh ha eh et tl h0 he sl sz
      go_enter Tryd.func64, Tryd.ntmps64
      go_wp2_with (first | (go_at_call 76; (with_reducible refine c.mono ?_); rintro e w1 ⟨rfl, h1⟩; have H1 := Aside0.mk h1; clear h1))
      exact bodyPost_ret (results_list (rs := [.tmp 2, .tmp 3]) rfl (by simp) (.tmp (.tmp .nil))) rfl ⟨by rw [ES.out]; rfl, H1.out⟩
    · rw [if_neg (fun e => he e.symm)] at c
      have ES := Aside0.mk es
      have n0 : ([] : List UInt8).length = 0 := rfl
      rw [n0] at c
      clear es hh ha eh et tl h0 he sl sz n0
      go_enter Tryd.func64, Tryd.ntmps64
      go_wp2_with (first | (go_at_call 76; (with_reducible refine c.mono ?_); rintro e w1 ⟨rfl, h1⟩; have H1 := Aside0.mk h1; clear h1))
      exact bodyPost_ret (results_list (rs := [.tmp 2, .tmp 3]) rfl (by simp) (.tmp (.tmp .nil))) rfl ⟨by rw [ES.out]; rfl, H1.out⟩
  · have f4 : s.toList.isEmpty = false := by
      rw [sl]
      cases l with
      | nil => exact absurd tl (by simpa using h0)
      | cons c r => rfl
    by_cases he : p.length = l.length
    · obtain ⟨rfl, rfl⟩ := ha he
      rw [if_pos rfl] at c
      have ES := Aside0.mk es
      clear es hh ha eh et tl h0 he sl sz
      go_enter Tryd.func64, Tryd.ntmps64
      go_wp2_with (first | (go_at_call 76; (with_reducible refine c.mono ?_); rintro e w1 ⟨rfl, h1⟩; have H1 := Aside0.mk h1; clear h1))
      go_region
      all_goals
        go_wp2_with fail
        exact bodyPost_ret (results_list (rs := [.tmp 2, .tmp 3]) rfl (by simp) (.tmp (.tmp .nil))) rfl ⟨by rw [ES.out]; rfl, Below.drew H1.out⟩
    · rw [if_neg he] at c
      obtain ⟨k, ek⟩ : ∃ k, k = p.length := ⟨_, rfl⟩
      rw [← ek] at c eh et tl h0
      have f2 : k ≤ s.size := by omega
      have f1 : (k : Int) ≤ (s.size : Int) := Int.ofNat_le.2 f2
      have f3 : ((k : Int) == 0) = false := beq_eq_false_iff_ne.2 (by omega)
      have f5 : ((k : Int) == -1) = false := beq_eq_false_iff_ne.2 (by omega)
      have EH := Aside0.mk eh
      have ET := Aside0.mk et
      clear es hh ha eh et tl h0 he sl sz ek
      go_enter Tryd.func64, Tryd.ntmps64
      go_wp2_with (first | (go_at_call 76; (with_reducible refine c.mono ?_); rintro e w1 ⟨rfl, h1⟩; have H1 := Aside0.mk h1; clear h1))
      go_region
      all_goals
        go_wp2_with fail
        exact bodyPost_ret (results_list (rs := [.tmp 2, .tmp 3]) rfl (by simp) (.tmp (.tmp .nil))) rfl ⟨by rw [← EH.out, ← ET.out]; rfl, Below.drew H1.out⟩
end Go.Proofs.YtffcbcihnoaikaaDoor.Giv

namespace Go.Proofs.YtffcbcihnoaikaaDoor.Giv
open Go.RowKit Go.Proofs.YtffcbcihnoaikaaDoorW.PrintWords Go.Proofs.YtffcbcihnoaikaaDoorW.PrintLast Go.Proofs.YtffcbcihnoaikaaDoor.Pk Go.Proofs.YtffcbcihnoaikaaDoor.Ord Go.Proofs.YtffcbcihnoaikaaDoor.QM
set_option linter.unusedVariables false
set_option linter.unusedSimpArgs false

theorem debFetch_f (l : List ByteArray) (k : Nat) (z : ByteArray) : QF.semantic_fetch.f l (k : Int) z = some (l.getD k z) := by
  unfold QF.semantic_fetch.f
  by_cases h : k < l.length
  · rw [if_neg (by omega)]
    first
      | rw [if_pos (by omega), if_pos (by omega)]
      | rw [if_pos (by omega)]
    rw [rdOf_nat _ _ k h, List.getD_eq_getElem?_getD, List.getElem?_eq_getElem h]
    rfl
  · rw [if_pos (by omega), List.getD_eq_getElem?_getD, List.getElem?_eq_none (by omega)]
    rfl
/-- A byte as a text, or none. -/
def oneAt : Option UInt8 → ByteArray
  | none => ⟨#[]⟩
  | some c => bs [c]
theorem ones_getD (l : List UInt8) (k : Nat) : (ones l).getD k ⟨#[]⟩ = oneAt l[k]? := by
  unfold ones
  rw [List.getD_eq_getElem?_getD, List.getElem?_map]
  cases l[k]? <;> rfl
theorem weigh_f (o : Option UInt8) (h : ∀ c, o = some c → c.toNat < 128) : QW.semantic_weighDebianChar.f (oneAt o) = some (Deb.iw o) := by
  unfold QW.semantic_weighDebianChar.f
  cases o with
  | none =>
    have e : (oneAt none).toList = ([] : List UInt8) := by unfold oneAt; rw [toList_eq']
    rw [e, if_neg (by simp), if_pos rfl]
    rfl
  | some c =>
    have hc := h c rfl
    have e : (oneAt (some c)).toList = [c] := bs_toList _
    have sz : (oneAt (some c)).size = 1 := by rw [← len_toList, e]; rfl
    have b : bt (oneAt (some c)) 0 = (c.toNat : Int) := bs_bt0 c []
    have w1 : wrap64 (c.toNat : Int) = (c.toNat : Int) := by unfold wrap64; omega
    have w2 : wrap64 ((c.toNat : Int) + 122) = (c.toNat : Int) + 122 := by unfold wrap64; omega
    have i1 : ([c] = ([126] : List UInt8)) ↔ c.toNat = 126 := by
      rw [List.cons.injEq, ← UInt8.toNat_inj]
      simp
    rw [e, sz, b, w1, w2]
    rw [show Deb.iw (some c) = Deb.iwB c from rfl]
    unfold Deb.iwB
    by_cases h1 : c.toNat = 126
    · rw [if_pos (i1.2 h1), if_pos h1]
    · rw [if_neg (fun x => h1 (i1.1 x)), if_neg h1, if_neg (by simp), if_pos (by decide)]
      repeat' split
      all_goals first | rfl | (exfalso; omega)
/-- Split at nothing: a row of texts of one byte. -/
theorem splitE_row (l : List UInt8) (h : okB l = true) (w : World) :
    Calls Tryd.prog 65 #[.string (bs l), .string ⟨#[]⟩] w fun e w' => ∃ (A : Option Addr) (c : Nat), e = .returned (.slice A (ones l).length c) ∧ Kd.C Kd.string w' A (ones l).length (ones l) ∧ (ones l).length ≤ c ∧ Below w.heap.size w w' := by
  refine (splitE_calls (bs l) (asc_bs h) (by rw [bs_size]; have := okB_len h; omega) w).mono ?_
  rintro e w' ⟨v, rfl, ho, d⟩
  rw [bs_toList] at ho
  obtain ⟨A, c, rfl, h1, h2⟩ := Kd.R_reads ho
  exact ⟨A, c, rfl, h2, h1, d⟩
def szOf : Value → Nat
  | .string s => s.size
  | _ => 0
theorem debZero {x y : List UInt8} (hp : Deb.nd x = Deb.nd y) (hz : cI (Num.dec (Deb.dg x)) (Num.dec (Deb.dg y)) = 0) : Deb.debC x y = Deb.debC (Deb.rest x) (Deb.rest y) := by
  rw [Deb.debC_step, if_pos (Deb.ndC_zero.2 hp), if_pos hz]
theorem debNum {x y : List UInt8} (hp : Deb.nd x = Deb.nd y) (hz : ¬ cI (Num.dec (Deb.dg x)) (Num.dec (Deb.dg y)) = 0) : Deb.debC x y = cI (Num.dec (Deb.dg x)) (Num.dec (Deb.dg y)) := by
  rw [Deb.debC_step, if_pos (Deb.ndC_zero.2 hp), if_neg hz]
theorem debNon {x y : List UInt8} (hp : ¬ Deb.nd x = Deb.nd y) : Deb.debC x y = Deb.ndC (Deb.nd x) (Deb.nd y) := by
  rw [Deb.debC_step, if_neg (fun e => hp (Deb.ndC_zero.1 e))]
theorem rest_le (l : List UInt8) : (Deb.rest l).length ≤ l.length := (rest_sub l).length_le
theorem rest_less {x y : List UInt8} (h : ¬ (x = [] ∧ y = [])) : (Deb.rest x).length + (Deb.rest y).length < x.length + y.length := by
  have h1 := rest_le x
  have h2 := rest_le y
  by_cases hx : x = []
  · have := Deb.rest_lt (l := y) (fun e => h ⟨hx, e⟩)
    omega
  · have := Deb.rest_lt hx
    omega
theorem okB_at {l : List UInt8} (h : okB l = true) (k : Nat) (c : UInt8) (e : l[k]? = some c) : c.toNat < 128 ∧ c.toNat ≠ 0 := by
  obtain ⟨hk, rfl⟩ := List.getElem?_eq_some_iff.1 e
  exact okB_mem h _ (List.getElem_mem hk)
/-- The digits of what is left behind a part without digits. -/
theorem splitDg_calls (l : List UInt8) (w : World) (h : okB l = true) (hL : Laid w) :
    Calls Tryd.prog 68 #[.string (bs (Deb.nr l))] w fun e w' => ∃ b, e = .returned (.tuple #[.pointer (some ⟨b, 0, none⟩), .string (bs (Deb.rest l)), .nilIface]) ∧ IsBig w' b (Num.dec (Deb.dg l)) ∧ Below w.heap.size w w' := by
  have hn := okB_sub h (nr_sub l)
  have := splitDig_calls (bs (Deb.nr l)) w (asc_bs hn) (by rw [bs_size]; exact okB_len hn) hL
  rwa [bs_toList] at this
set_option maxHeartbeats 8000000 in
set_option maxRecDepth 100000 in
theorem debComp_calls (a b : List UInt8) (w : World) (ha : okB a = true) (hb : okB b = true) (hL : Laid w) :
    Calls Tryd.prog 52 #[.string (bs a), .string (bs b)] w fun e w' => e = .returned (.tuple #[.int .i64 (Deb.debC a b), .nilIface]) ∧ Below w.heap.size w w' := by
  have HL := Aside0.mk hL
  obtain ⟨D, eD⟩ : ∃ D, D = Deb.debC a b := ⟨_, rfl⟩
  rw [← eD]
  clear hL
  go_enter Tryd.func52, Tryd.ntmps52
  go_wp2_with fail
  go_loopw [0, 1] (fun v0 v1 wr => ∃ x y : List UInt8, v0 = .string (bs x) ∧ v1 = .string (bs y) ∧ okB x = true ∧ okB y = true ∧ Deb.debC x y = D ∧ Below w.heap.size w wr) (fun v0 v1 wr => szOf v0 + szOf v1)
  case atStart => exact ⟨a, b, rfl, rfl, ha, hb, eD.symm, Below.refl _ _⟩
  case round =>
    obtain ⟨x, y, rfl, rfl, hx, hy, hD, hbw⟩ := hrel
    clear ha hb eD
    have BL := Aside0.mk hbw
    have BS := Aside0.mk hbw.size
    clear hbw
    by_cases hemp : x = [] ∧ y = []
    · obtain ⟨rfl, rfl⟩ := hemp
      have f1 : (bs []).toList.isEmpty = true := by rw [bs_toList]; rfl
      have HD := Aside0.mk hD
      clear hD hx hy
      go_wp2_with fail
      exact bodyPost_ret (results_list (rs := [.tmp 4, .tmp 5]) rfl (by simp) (.tmp (.tmp .nil))) rfl ⟨by rw [← HD.out]; rfl, BL.out⟩
    · have sA := fun w' => splitNon_calls x w' hx
      have sB := fun w' => splitNon_calls y w' hy
      have hpq : (bs x).toList.isEmpty = false ∨ (bs x).toList.isEmpty = true ∧ (bs y).toList.isEmpty = false := by
        rw [bs_toList, bs_toList]
        cases x with
        | cons c r => exact .inl rfl
        | nil =>
          cases y with
          | nil => exact absurd ⟨rfl, rfl⟩ hemp
          | cons c r => exact .inr ⟨rfl, rfl⟩
      have RL := Aside0.mk (rest_less hemp)
      clear hemp
      by_cases hp : Deb.nd x = Deb.nd y
      · have dA := fun (w' : World) (hb' : Below w.heap.size w w') => splitDg_calls x w' hx (HL.out.below hb')
        have dB := fun (w' : World) (hb' : Below w.heap.size w w') => splitDg_calls y w' hy (HL.out.below hb')
        have HX := Aside0.mk (okB_sub hx (rest_sub x))
        have HY := Aside0.mk (okB_sub hy (rest_sub y))
        have cm := fun b1 b2 w' (h1 : IsBig w' b1 (Num.dec (Deb.dg x))) (h2 : IsBig w' b2 (Num.dec (Deb.dg y))) => Cmp_calls _ _ b1 b2 w' h1 h2
        by_cases hz : cI (Num.dec (Deb.dg x)) (Num.dec (Deb.dg y)) = 0
        · have HD := Aside0.mk ((debZero hp hz).symm.trans hD)
          rw [hz] at cm
          rw [hp] at sA
          clear hD hx hy hp hz
          rcases hpq with f8 | ⟨f8, f9⟩
          all_goals
            go_wp2_with (first | (go_at_call 64; (with_reducible refine (sA _).mono ?_); rintro e w1 ⟨rfl, d1⟩; have BL1 := Aside0.mk (below_then BL.out BS.out d1); have BS1 := Aside0.mk (Nat.le_trans BS.out d1.size); clear d1 sA) | (go_at_call 64; (with_reducible refine (sB _).mono ?_); rintro e w2 ⟨rfl, d2⟩; have BL2 := Aside0.mk (below_then BL1.out BS1.out d2); have BS2 := Aside0.mk (Nat.le_trans BS1.out d2.size); clear d2 sB) | (go_at_call 68; (with_reducible refine (dA _ BL2.out).mono ?_); rintro e w3 ⟨b3, rfl, q3, d3⟩; have BL3 := Aside0.mk (below_then BL2.out BS2.out d3); have BS3 := Aside0.mk (Nat.le_trans BS2.out d3.size); have Q3 := Aside0.mk q3; clear d3 q3 dA) | (go_at_call 68; (with_reducible refine (dB _ BL3.out).mono ?_); rintro e w4 ⟨b4, rfl, q4, d4⟩; have BL4 := Aside0.mk (below_then BL3.out BS3.out d4); have BS4 := Aside0.mk (Nat.le_trans BS3.out d4.size); have Q5 := Aside0.mk (Q3.out.below d4); have Q4 := Aside0.mk q4; clear d4 q4 dB) | (go_at_call 51; (with_reducible refine (cm _ _ _ Q5.out Q4.out).mono ?_); rintro e w5 ⟨rfl, d5⟩; have BL5 := Aside0.mk (below_then BL4.out BS4.out d5.below); clear d5))
            go_roundw
            case rel => exact ⟨_, _, rfl, rfl, HX.out, HY.out, HD.out, BL5.out⟩
            case measure =>
              have := RL.out
              simp only [szOf, bs_size]
              omega
        · have HD := Aside0.mk ((debNum hp hz).symm.trans hD)
          have nz : (cI (Num.dec (Deb.dg x)) (Num.dec (Deb.dg y)) != 0) = true := bne_iff_ne.2 hz
          rw [hp] at sA
          clear hD hx hy hp hz
          rcases hpq with f8 | ⟨f8, f9⟩
          all_goals
            go_wp2_with (first | (go_at_call 64; (with_reducible refine (sA _).mono ?_); rintro e w1 ⟨rfl, d1⟩; have BL1 := Aside0.mk (below_then BL.out BS.out d1); have BS1 := Aside0.mk (Nat.le_trans BS.out d1.size); clear d1 sA) | (go_at_call 64; (with_reducible refine (sB _).mono ?_); rintro e w2 ⟨rfl, d2⟩; have BL2 := Aside0.mk (below_then BL1.out BS1.out d2); have BS2 := Aside0.mk (Nat.le_trans BS1.out d2.size); clear d2 sB) | (go_at_call 68; (with_reducible refine (dA _ BL2.out).mono ?_); rintro e w3 ⟨b3, rfl, q3, d3⟩; have BL3 := Aside0.mk (below_then BL2.out BS2.out d3); have BS3 := Aside0.mk (Nat.le_trans BS2.out d3.size); have Q3 := Aside0.mk q3; clear d3 q3 dA) | (go_at_call 68; (with_reducible refine (dB _ BL3.out).mono ?_); rintro e w4 ⟨b4, rfl, q4, d4⟩; have BL4 := Aside0.mk (below_then BL3.out BS3.out d4); have BS4 := Aside0.mk (Nat.le_trans BS3.out d4.size); have Q5 := Aside0.mk (Q3.out.below d4); have Q4 := Aside0.mk q4; clear d4 q4 dB) | (go_at_call 51; (with_reducible refine (cm _ _ _ Q5.out Q4.out).mono ?_); rintro e w5 ⟨rfl, d5⟩; have BL5 := Aside0.mk (below_then BL4.out BS4.out d5.below); clear d5))
            exact bodyPost_ret (results_list (rs := [.tmp 4, .tmp 5]) rfl (by simp) (.tmp (.tmp .nil))) rfl ⟨by rw [← HD.out]; rfl, BL5.out⟩
      · have HD := Aside0.mk ((debNon hp).symm.trans hD)
        have hkx := okB_sub hx (nd_sub x)
        have hky := okB_sub hy (nd_sub y)
        obtain ⟨p, ep⟩ : ∃ p, p = Deb.nd x := ⟨_, rfl⟩
        obtain ⟨q, eq⟩ : ∃ q, q = Deb.nd y := ⟨_, rfl⟩
        rw [← ep, ← eq] at hp HD
        rw [← ep] at sA hkx
        rw [← eq] at sB hky
        have zA := fun w' => splitE_row p hkx w'
        have zB := fun w' => splitE_row q hky w'
        obtain ⟨la, ea⟩ : ∃ la, la = ones p := ⟨_, rfl⟩
        obtain ⟨lb, eb⟩ : ∃ lb, lb = ones q := ⟨_, rfl⟩
        have ga : ∀ k : Nat, la.getD k ⟨#[]⟩ = oneAt p[k]? := by rw [ea]; exact ones_getD p
        have gb : ∀ k : Nat, lb.getD k ⟨#[]⟩ = oneAt q[k]? := by rw [eb]; exact ones_getD q
        rw [← ea] at zA
        rw [← eb] at zB
        clear ea eb ep eq hx hy hD RL
        obtain ⟨n, en⟩ : ∃ n, n = max p.length q.length := ⟨_, rfl⟩
        have hmx : (bs q).size = n ∧ (bs p).size < n ∨ (bs p).size = n ∧ ¬ n < (bs q).size := by rw [bs_size, bs_size]; omega
        have lp := okB_len hkx
        have lq := okB_len hky
        have hn : n ≤ 40000 := by omega
        have ne : ((bs p).toList == (bs q).toList) = false := by rw [bs_toList, bs_toList]; exact beq_eq_false_iff_ne.2 hp
        have NE := Aside0.mk hp
        have EN := Aside0.mk en
        have HKX := Aside0.mk hkx
        have HKY := Aside0.mk hky
        clear en lp lq hp hkx hky
        rcases hpq with f8 | ⟨f8, f9⟩ <;> rcases hmx with ⟨hs, hs2⟩ | ⟨hs, hs2⟩
        all_goals
          go_wp2_with (first | (go_at_call 64; (with_reducible refine (sA _).mono ?_); rintro e w1 ⟨rfl, d1⟩; have BL1 := Aside0.mk (below_then BL.out BS.out d1); have BS1 := Aside0.mk (Nat.le_trans BS.out d1.size); clear d1 sA) | (go_at_call 64; (with_reducible refine (sB _).mono ?_); rintro e w2 ⟨rfl, d2⟩; have BL2 := Aside0.mk (below_then BL1.out BS1.out d2); have BS2 := Aside0.mk (Nat.le_trans BS1.out d2.size); clear d2 sB) | (go_at_call 65; (with_reducible refine (zA _).mono ?_); rintro e w3 ⟨A3, c3, rfl, r3, l3, d3⟩; have BL3 := Aside0.mk (below_then BL2.out BS2.out d3); have BS3 := Aside0.mk (Nat.le_trans BS2.out d3.size); have R3 := Aside0.mk r3; have L3 := Aside0.mk l3; clear d3 r3 l3 zA) | (go_at_call 65; (with_reducible refine (zB _).mono ?_); rintro e w4 ⟨A4, c4, rfl, r4, l4, d4⟩; have BL4 := Aside0.mk (below_then BL3.out BS3.out d4); have BS4 := Aside0.mk (Nat.le_trans BS3.out d4.size); have R5 := Aside0.mk (Kd.C_below R3.out d4); have R4 := Aside0.mk r4; have L4 := Aside0.mk l4; clear d4 r4 l4 zB))
          obtain ⟨wo, rfl⟩ : ∃ wo : World, wo = wr := ⟨_, rfl⟩
          go_loopw [45] (fun v45 wi => ∃ i : Nat, v45 = .int .i64 i ∧ i ≤ n ∧ p.take i = q.take i ∧ Below w.heap.size w wi ∧ Below w4.heap.size w4 wi) (fun v45 wi => n - (intOf v45).toNat)
          case atStart => exact ⟨0, rfl, Nat.zero_le _, rfl, BL4.out, Below.refl _ _⟩
          case round =>
            obtain ⟨i, rfl, hi, htk, hbi, hb4⟩ := hrel
            have BI := Aside0.mk hbi
            have BJ := Aside0.mk hbi.size
            have B4 := Aside0.mk hb4
            clear hbi hb4
            by_cases hlt : i < n
            · have fa := fun (w' : World) (hb' : Below w4.heap.size w4 w') => QF.semantic_fetch.calls A3 c3 la (i : Int) ⟨#[]⟩ (oneAt p[i]?) w' (Kd.C_below R5.out hb') L3.out (by rw [debFetch_f, ga])
              have fb := fun (w' : World) (hb' : Below w4.heap.size w4 w') => QF.semantic_fetch.calls A4 c4 lb (i : Int) ⟨#[]⟩ (oneAt q[i]?) w' (Kd.C_below R4.out hb') L4.out (by rw [debFetch_f, gb])
              have wa := fun w' => QW.semantic_weighDebianChar.calls (oneAt p[i]?) _ w' (weigh_f p[i]? (fun c e => (okB_at HKX.out i c e).1))
              have wb := fun w' => QW.semantic_weighDebianChar.calls (oneAt q[i]?) _ w' (weigh_f q[i]? (fun c e => (okB_at HKY.out i c e).1))
              have iwc := Deb.iw_cmp (x := p[i]?) (y := q[i]?) (fun c e => (okB_at HKX.out i c e).2) (fun c e => (okB_at HKY.out i c e).2)
              have nat_ := Deb.ndC_at i p q htk
              have nx : p[i]? = q[i]? → p.take (i + 1) = q.take (i + 1) := fun e => by rw [List.take_add_one, List.take_add_one, htk, e]
              have wz : Deb.wC p[i]? q[i]? = 0 → p[i]? = q[i]? := fun e => Deb.wt_inj (cI_zero.1 e)
              obtain ⟨ta, eta⟩ : ∃ ta, ta = oneAt p[i]? := ⟨_, rfl⟩
              obtain ⟨tb, etb⟩ : ∃ tb, tb = oneAt q[i]? := ⟨_, rfl⟩
              obtain ⟨u, eu⟩ : ∃ u, u = Deb.iw p[i]? := ⟨_, rfl⟩
              obtain ⟨v, ev⟩ : ∃ v, v = Deb.iw q[i]? := ⟨_, rfl⟩
              rw [← eta] at fa wa
              rw [← etb] at fb wb
              rw [← eu] at wa iwc
              rw [← ev] at wb iwc
              have wk : wrap64 ((i : Int) + 1) = ((i + 1 : Nat) : Int) := Pk.wr i (by omega)
              have g4 : (i : Int) < (n : Int) := Int.ofNat_lt.2 hlt
              clear eta etb eu ev htk hi
              rcases Int.lt_trichotomy u v with hc | hc | hc
              · have c1 := cI_neg.2 hc
                rw [iwc] at c1
                have ST := Aside0.mk (HD.out.symm.trans ((nat_ (fun e => by rw [e, Deb.wC_cmp.self] at c1; exact absurd c1 (by decide))).trans c1))
                clear c1 iwc nat_ nx wz
                go_wp2_with (first | (go_at_call 67; (with_reducible refine (fa _ B4.out).mono ?_); rintro e w5 ⟨rfl, d5⟩; have BI1 := Aside0.mk (below_then BI.out BJ.out d5.below); have BJ1 := Aside0.mk (Nat.le_trans BJ.out d5.below.size); have B5 := Aside0.mk (below_then B4.out B4.out.size d5.below); clear d5 fa) | (go_at_call 66; (with_reducible refine (wa _).mono ?_); rintro e w6 ⟨rfl, d6⟩; have BI2 := Aside0.mk (below_then BI1.out BJ1.out d6.below); have BJ2 := Aside0.mk (Nat.le_trans BJ1.out d6.below.size); have B6 := Aside0.mk (below_then B5.out B5.out.size d6.below); clear d6 wa) | (go_at_call 67; (with_reducible refine (fb _ B6.out).mono ?_); rintro e w7 ⟨rfl, d7⟩; have BI3 := Aside0.mk (below_then BI2.out BJ2.out d7.below); have BJ3 := Aside0.mk (Nat.le_trans BJ2.out d7.below.size); have B7 := Aside0.mk (below_then B6.out B6.out.size d7.below); clear d7 fb) | (go_at_call 66; (with_reducible refine (wb _).mono ?_); rintro e w8 ⟨rfl, d8⟩; have BI4 := Aside0.mk (below_then BI3.out BJ3.out d8.below); have B8 := Aside0.mk (below_then B7.out B7.out.size d8.below); clear d8 wb))
                exact bodyPost_ret (results_list (rs := [.tmp 4, .tmp 5]) rfl (by simp) (.tmp (.tmp .nil))) rfl ⟨by rw [ST.out]; rfl, BI4.out⟩
              · subst hc
                have c1 : cI u u = 0 := cI_zero.2 rfl
                rw [iwc] at c1
                have NX := Aside0.mk (nx (wz c1))
                have kn : i + 1 ≤ n := hlt
                have hc2 : ¬ u < u := Int.lt_irrefl u
                clear c1 iwc nat_ nx wz
                go_wp2_with (first | (go_at_call 67; (with_reducible refine (fa _ B4.out).mono ?_); rintro e w5 ⟨rfl, d5⟩; have BI1 := Aside0.mk (below_then BI.out BJ.out d5.below); have BJ1 := Aside0.mk (Nat.le_trans BJ.out d5.below.size); have B5 := Aside0.mk (below_then B4.out B4.out.size d5.below); clear d5 fa) | (go_at_call 66; (with_reducible refine (wa _).mono ?_); rintro e w6 ⟨rfl, d6⟩; have BI2 := Aside0.mk (below_then BI1.out BJ1.out d6.below); have BJ2 := Aside0.mk (Nat.le_trans BJ1.out d6.below.size); have B6 := Aside0.mk (below_then B5.out B5.out.size d6.below); clear d6 wa) | (go_at_call 67; (with_reducible refine (fb _ B6.out).mono ?_); rintro e w7 ⟨rfl, d7⟩; have BI3 := Aside0.mk (below_then BI2.out BJ2.out d7.below); have BJ3 := Aside0.mk (Nat.le_trans BJ2.out d7.below.size); have B7 := Aside0.mk (below_then B6.out B6.out.size d7.below); clear d7 fb) | (go_at_call 66; (with_reducible refine (wb _).mono ?_); rintro e w8 ⟨rfl, d8⟩; have BI4 := Aside0.mk (below_then BI3.out BJ3.out d8.below); have B8 := Aside0.mk (below_then B7.out B7.out.size d8.below); clear d8 wb))
                go_roundw
                case rel => exact ⟨i + 1, rfl, kn, NX.out, BI4.out, B8.out⟩
                case measure =>
                  simp only [intOf]
                  omega
              · have c1 := cI_pos.2 hc
                rw [iwc] at c1
                have hc2 : ¬ u < v := by omega
                have ST := Aside0.mk (HD.out.symm.trans ((nat_ (fun e => by rw [e, Deb.wC_cmp.self] at c1; exact absurd c1 (by decide))).trans c1))
                clear c1 iwc nat_ nx wz
                go_wp2_with (first | (go_at_call 67; (with_reducible refine (fa _ B4.out).mono ?_); rintro e w5 ⟨rfl, d5⟩; have BI1 := Aside0.mk (below_then BI.out BJ.out d5.below); have BJ1 := Aside0.mk (Nat.le_trans BJ.out d5.below.size); have B5 := Aside0.mk (below_then B4.out B4.out.size d5.below); clear d5 fa) | (go_at_call 66; (with_reducible refine (wa _).mono ?_); rintro e w6 ⟨rfl, d6⟩; have BI2 := Aside0.mk (below_then BI1.out BJ1.out d6.below); have BJ2 := Aside0.mk (Nat.le_trans BJ1.out d6.below.size); have B6 := Aside0.mk (below_then B5.out B5.out.size d6.below); clear d6 wa) | (go_at_call 67; (with_reducible refine (fb _ B6.out).mono ?_); rintro e w7 ⟨rfl, d7⟩; have BI3 := Aside0.mk (below_then BI2.out BJ2.out d7.below); have BJ3 := Aside0.mk (Nat.le_trans BJ2.out d7.below.size); have B7 := Aside0.mk (below_then B6.out B6.out.size d7.below); clear d7 fb) | (go_at_call 66; (with_reducible refine (wb _).mono ?_); rintro e w8 ⟨rfl, d8⟩; have BI4 := Aside0.mk (below_then BI3.out BJ3.out d8.below); have B8 := Aside0.mk (below_then B7.out B7.out.size d8.below); clear d8 wb))
                exact bodyPost_ret (results_list (rs := [.tmp 4, .tmp 5]) rfl (by simp) (.tmp (.tmp .nil))) rfl ⟨by rw [ST.out]; rfl, BI4.out⟩
            · refine absurd ?_ NE.out
              have en := EN.out
              have a1 : p.take i = p := List.take_of_length_le (by omega)
              have a2 : q.take i = q := List.take_of_length_le (by omega)
              rw [← a1, ← a2]
              exact htk
end Go.Proofs.YtffcbcihnoaikaaDoor.Giv
