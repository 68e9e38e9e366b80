/- Whole numbers in bytes, the lowest first: ten times a number and a digit more. Plain Lean, no program.
   Texts cut at a byte; what stands behind a version's numbers compared. Plain Lean, no program.
   Versions like those of SemVer in plain Lean (bytes below 128): the numbers ahead, and what stands behind them. No program.
   Versions like those of SemVer, whatever the text: what stands behind the numbers is told rune by rune.
   Numbers with points between, identifiers with points between: what is read of versions that are made of them. Plain Lean, no program.
   What the contracts over the interface Version have in common.
   Runes: digits.
   Contracts by hand: rows of whole numbers of any size: what they are in memory, an element or 0, two rows compared.
   Contract by hand: parseSemverLike, whatever the text. -/
import Derived.Test.YtdliagehkiihpaaGreatDoorZA
import Derived.Test.YtdliagehkiihpaaGreatDoorZD
import Derived.Deep.QuietTactic
import Derived.BigQuiet
import Derived.Test.YtdliagehkiihpaaGreatDoorZC
import Derived.Test.YtdliagehkiihpaaGreatDoorWMore
import Derived.Outline
import Derived.Test.YtdliagehkiihpaaGreatDoorShelf
import Derived.Lib.SmallJoins
namespace Go.Proofs.YtdliagehkiihpaaGreatDoor.Lb
set_option linter.unusedVariables false

/-- The bytes of a number, the lowest first; the last one is not 0. -/
def lb (n : Nat) : List Nat := if h : n = 0 then [] else n % 256 :: lb (n / 256)
termination_by n
decreasing_by omega
theorem lb_zero : lb 0 = [] := by unfold lb; simp
theorem lb_pos {n : Nat} (h : n ≠ 0) : lb n = n % 256 :: lb (n / 256) := by
  conv => lhs; unfold lb
  rw [dif_neg h]
theorem lb_small (n : Nat) : ∀ d ∈ lb n, d < 256 := by
  induction n using Nat.strongRecOn with
  | _ n ih =>
    by_cases h : n = 0
    · rw [h, lb_zero]
      intro d hd
      simp at hd
    · rw [lb_pos h]
      intro d hd
      rcases List.mem_cons.1 hd with rfl | hd
      · omega
      · exact ih _ (by omega) d hd
/-- Ten times bytes and a carry. -/
def ma : Nat → List Nat → List Nat
  | c, [] => if c = 0 then [] else [c]
  | c, x :: r => (c + 10 * x) % 256 :: ma ((c + 10 * x) / 256) r
theorem ma_lb (n : Nat) : ∀ c, c ≤ 9 → ma c (lb n) = lb (10 * n + c) := by
  induction n using Nat.strongRecOn with
  | _ n ih =>
    intro c hc
    by_cases h : n = 0
    · subst h
      rw [lb_zero, ma]
      by_cases hz : c = 0
      · rw [if_pos hz, hz]
        exact lb_zero.symm
      · rw [if_neg hz, lb_pos (by omega), show (10 * 0 + c) % 256 = c by omega, show (10 * 0 + c) / 256 = 0 by omega, lb_zero]
    · rw [lb_pos h, ma, ih _ (by omega) _ (by omega)]
      rw [lb_pos (show 10 * n + c ≠ 0 by omega)]
      rw [show (c + 10 * (n % 256)) % 256 = (10 * n + c) % 256 by omega, show 10 * (n / 256) + (c + 10 * (n % 256)) / 256 = (10 * n + c) / 256 by omega]
theorem lb_len (n k : Nat) (h : n < 10 ^ k) : (lb n).length ≤ k := by
  induction k generalizing n with
  | zero =>
    have : n = 0 := by simpa using h
    rw [this, lb_zero]
    exact Nat.le_refl _
  | succ k ih =>
    by_cases z : n = 0
    · rw [z, lb_zero]
      exact Nat.zero_le _
    · rw [lb_pos z, List.length_cons]
      have := ih (n / 256) (by rw [Nat.pow_succ] at h; omega)
      omega
/-- The bytes of a number, the highest first. -/
def mag (n : Nat) : List UInt8 := (lb n).reverse.map UInt8.ofNat
theorem mag_zero : mag 0 = [] := by unfold mag; rw [lb_zero]; rfl
theorem mag_nil {n : Nat} (h : mag n = []) : n = 0 := by
  by_cases z : n = 0
  · exact z
  · unfold mag at h
    rw [lb_pos z] at h
    simp at h
def lv : List Nat → Nat
  | [] => 0
  | d :: r => d + 256 * lv r
theorem lv_lb (n : Nat) : lv (lb n) = n := by
  induction n using Nat.strongRecOn with
  | _ n ih =>
    by_cases h : n = 0
    · rw [h, lb_zero]
      rfl
    · rw [lb_pos h, lv, ih _ (by omega)]
      omega
theorem mag_inj {a b : Nat} (h : mag a = mag b) : a = b := by
  have e : ∀ n, (lb n).reverse = (mag n).map UInt8.toNat := by
    intro n
    unfold mag
    rw [List.map_map]
    conv => lhs; rw [← List.map_id (lb n).reverse]
    refine List.map_congr_left ?_
    intro d hd
    have := lb_small n d (List.mem_reverse.1 hd)
    simp only [id_eq, Function.comp_apply]
    rw [UInt8.toNat_ofNat']
    omega
  have := congrArg List.reverse ((e a).trans ((congrArg (List.map UInt8.toNat) h).trans (e b).symm))
  rw [List.reverse_reverse, List.reverse_reverse] at this
  have := congrArg lv this
  rwa [lv_lb, lv_lb] at this
end Go.Proofs.YtdliagehkiihpaaGreatDoor.Lb

namespace Go.Proofs.YtdliagehkiihpaaGreatDoor.Cut
set_option linter.unusedVariables false
open Go.Proofs.YtdliagehkiihpaaGreatDoor.Ord Go.Proofs.YtdliagehkiihpaaGreatDoor.Rpm

/-- A text cut at each c. -/
def cutAt (c : UInt8) : List UInt8 → List (List UInt8)
  | [] => [[]]
  | x :: r => if x = c then [] :: cutAt c r else (match cutAt c r with | h :: t => (x :: h) :: t | [] => [[x]])
theorem cutAt_ne (c : UInt8) (l : List UInt8) : cutAt c l ≠ [] := by
  cases l with
  | nil => simp [cutAt]
  | cons x r =>
    unfold cutAt
    split
    · simp
    · split <;> simp
/-- Up to the first c, and behind it. -/
def upTo (c : UInt8) (l : List UInt8) : List UInt8 := l.takeWhile (fun x => !(x == c))
theorem cutAt_no (c : UInt8) : ∀ l : List UInt8, (l.any (fun x => x == c)) = false → cutAt c l = [l] ∧ upTo c l = l
  | [], _ => ⟨rfl, rfl⟩
  | x :: r, h => by
    rw [List.any_cons, Bool.or_eq_false_iff] at h
    obtain ⟨e1, e2⟩ := cutAt_no c r h.2
    have hx : ¬ x = c := by simpa using h.1
    refine ⟨?_, ?_⟩
    · unfold cutAt
      rw [if_neg hx, e1]
    · unfold upTo at e2 ⊢
      rw [List.takeWhile_cons_of_pos (by simp [hx]), e2]
theorem cutAt_yes (c : UInt8) : ∀ l : List UInt8, (l.any (fun x => x == c)) = true → cutAt c l = upTo c l :: cutAt c (l.drop ((upTo c l).length + 1)) ∧ (upTo c l).length < l.length ∧ (l.take (upTo c l).length) = upTo c l
  | [], h => by simp at h
  | x :: r, h => by
    by_cases hx : x = c
    · have e : upTo c (x :: r) = [] := by
        unfold upTo
        rw [List.takeWhile_cons_of_neg (by simp [hx])]
      rw [e]
      refine ⟨?_, by simp, rfl⟩
      conv => lhs; unfold cutAt
      rw [if_pos hx]
      rfl
    · rw [List.any_cons] at h
      have hr : (r.any fun x => x == c) = true := by simpa [hx] using h
      obtain ⟨e1, e2, e3⟩ := cutAt_yes c r hr
      have e : upTo c (x :: r) = x :: upTo c r := by
        unfold upTo
        rw [List.takeWhile_cons_of_pos (by simp [hx])]
      rw [e]
      refine ⟨?_, by simpa using e2, by rw [List.length_cons, List.take_succ_cons, e3]⟩
      conv => lhs; unfold cutAt
      rw [if_neg hx, e1]
      rfl
theorem cutAt_sizes (c : UInt8) : ∀ l : List UInt8, (cutAt c l).length ≤ l.length + 1 ∧ ∀ x ∈ cutAt c l, x.length ≤ l.length
  | [] => ⟨by simp [cutAt], by simp [cutAt]⟩
  | x :: r => by
    obtain ⟨h1, h2⟩ := cutAt_sizes c r
    unfold cutAt
    by_cases hx : x = c
    · rw [if_pos hx]
      refine ⟨by simp; omega, ?_⟩
      intro y hy
      rcases List.mem_cons.1 hy with rfl | hy
      · simp
      · have := h2 y hy
        simp
        omega
    · rw [if_neg hx]
      split
      · rename_i a t he
        rw [he] at h1 h2
        refine ⟨by simp at h1 ⊢; omega, ?_⟩
        intro y hy
        rcases List.mem_cons.1 hy with rfl | hy
        · have := h2 a List.mem_cons_self
          simp
          omega
        · have := h2 y (List.mem_cons_of_mem _ hy)
          simp
          omega
      · exact ⟨by simp, by intro y hy; rw [List.mem_singleton.1 hy]; simp⟩
/-- A hyphen ahead is dropped. -/
def trim (c : UInt8) (l : List UInt8) : List UInt8 := match l with
  | x :: r => if x = c then r else l
  | [] => []
theorem trim_len (c : UInt8) (l : List UInt8) : (trim c l).length ≤ l.length := by
  unfold trim
  cases l with
  | nil => simp
  | cons x r =>
    simp only
    split <;> simp
/-- What counts of what stands behind the numbers. -/
def core (l : List UInt8) : List UInt8 := trim 45 (upTo 43 l)
def em (l : List UInt8) : Int := if l = [] then 1 else 0
/-- What stands behind the numbers compared. -/
def buildC (a b : List UInt8) : Int := if cI (em (core a)) (em (core b)) = 0 then lexL Seg.idC (cutAt 46 (core a)) (cutAt 46 (core b)) else cI (em (core a)) (em (core b))
theorem buildC_cmp : Cmp buildC := (cI_cmp.key (fun l => em (core l))).then_ ((lexL_cmp Seg.idC_cmp).key (fun l => cutAt 46 (core l)))
theorem core_len (l : List UInt8) : (core l).length ≤ l.length := by
  have a := trim_len 45 (upTo 43 l)
  have b : (upTo 43 l).length ≤ l.length := List.Sublist.length_le (List.takeWhile_sublist _)
  unfold core
  omega
end Go.Proofs.YtdliagehkiihpaaGreatDoor.Cut

namespace Go.Proofs.YtdliagehkiihpaaGreatDoor.Slk
open Go.Proofs.YtdliagehkiihpaaGreatDoor.Rpm
set_option linter.unusedVariables false
/-- A number that is open is closed. -/
def fl (acc : List Int) (cur : List UInt8) : List Int := if cur = [] then acc else acc ++ [(Num.dec cur : Int)]
def slk : List Int → List UInt8 → List UInt8 → List Int × List UInt8
  | acc, cur, [] => (fl acc cur, [])
  | acc, cur, c :: r => if dig c = true then slk acc (cur ++ [c]) r else if c = 46 then slk (fl acc cur) [] r else (fl acc cur, c :: r)
theorem slk_nil (acc : List Int) (cur : List UInt8) : slk acc cur [] = (fl acc cur, []) := by rw [slk]
theorem slk_cons (acc : List Int) (cur : List UInt8) (c : UInt8) (r : List UInt8) : slk acc cur (c :: r) = if dig c = true then slk acc (cur ++ [c]) r else if c = 46 then slk (fl acc cur) [] r else (fl acc cur, c :: r) := by rw [slk]
/-- A v ahead. -/
def lead (l : List UInt8) : Bool := l.head? == some 118
def body (l : List UInt8) : List UInt8 := if lead l = true then l.tail else l
/-- The numbers, and what stands behind them. -/
def parse (l : List UInt8) : List Int × List UInt8 := slk [] [] (body l)
theorem slk_len : ∀ (l : List UInt8) (acc : List Int) (cur : List UInt8), (slk acc cur l).1.length ≤ acc.length + l.length + 1 ∧ (slk acc cur l).2.length ≤ l.length
  | [], acc, cur => by
    rw [slk_nil]
    refine ⟨?_, Nat.le_refl _⟩
    show (fl acc cur).length ≤ _
    unfold fl
    split <;> simp
  | c :: r, acc, cur => by
    have h1 := slk_len r acc (cur ++ [c])
    have h2 := slk_len r (fl acc cur) []
    have h3 : (fl acc cur).length ≤ acc.length + 1 := by unfold fl; split <;> simp
    rw [slk_cons]
    split
    · refine ⟨?_, ?_⟩
      · have := h1.1
        rw [List.length_cons]
        omega
      · have := h1.2
        rw [List.length_cons]
        omega
    · split
      · refine ⟨?_, ?_⟩
        · have := h2.1
          rw [List.length_cons]
          omega
        · have := h2.2
          rw [List.length_cons]
          omega
      · exact ⟨by show (fl acc cur).length ≤ _; rw [List.length_cons]; omega, Nat.le_refl _⟩
end Go.Proofs.YtdliagehkiihpaaGreatDoor.Slk

namespace Go.Proofs.YtdliagehkiihpaaGreatDoor.Slk
open Go.Proofs.YtdliagehkiihpaaGreatDoor.Rpm Go.Proofs.YtdliagehkiihpaaGreatDoor.Ord Go.Proofs.YtdliagehkiihpaaGreatDoor.Giv Go.Proofs.YtdliagehkiihpaaGreatDoor.Pk
set_option linter.unusedVariables false
set_option linter.unusedSimpArgs false
/-- The runes from a place on, written again. -/
def reG (s : ByteArray) : Nat → Nat → List UInt8
  | 0, _ => []
  | n + 1, pos => if pos < s.size then (Utf8.encode ((Utf8.decode s pos).1 : Int)).toList ++ reG s n (pos + (Utf8.decode s pos).2) else []
def slG (s : ByteArray) : Nat → Nat → List Int → List UInt8 → List Int × List UInt8
  | 0, _, acc, cur => (fl acc cur, [])
  | n + 1, pos, acc, cur => if h : pos < s.size then (if dig (s[pos]'h) = true then slG s n (pos + 1) acc (cur ++ [s[pos]'h]) else if s[pos]'h = 46 then slG s n (pos + 1) (fl acc cur) [] else (fl acc cur, reG s (n + 1) pos)) else (fl acc cur, [])
/-- The numbers of a text, and what stands behind them. -/
def parseR (s : ByteArray) : List Int × List UInt8 := slG (bs (body s.toList)) s.size 0 [] []
theorem reG_end {s : ByteArray} {pos : Nat} (h : ¬ pos < s.size) (n : Nat) : reG s n pos = [] := by
  cases n with
  | zero => rfl
  | succ n => rw [reG, if_neg h]
theorem slG_end {s : ByteArray} {pos : Nat} (h : ¬ pos < s.size) (n : Nat) (acc : List Int) (cur : List UInt8) : slG s n pos acc cur = (fl acc cur, []) := by
  cases n with
  | zero => rfl
  | succ n => rw [slG, dif_neg h]
theorem dec_pos (s : ByteArray) (pos : Nat) (h : pos < s.size) : 1 ≤ (Utf8.decode s pos).2 := by
  rcases dec_cases' s pos h with ⟨_, e⟩ | ⟨_, _, e⟩
  · rw [e]
    exact Nat.le_refl _
  · exact e
theorem reG_step {s : ByteArray} {pos n : Nat} (h : pos < s.size) (hn : s.size - pos ≤ n) : ∃ m, reG s n pos = (Utf8.encode ((Utf8.decode s pos).1 : Int)).toList ++ reG s m (pos + (Utf8.decode s pos).2) ∧ s.size - (pos + (Utf8.decode s pos).2) ≤ m := by
  have := dec_pos s pos h
  cases n with
  | zero => omega
  | succ n => exact ⟨n, by rw [reG, if_pos h], by omega⟩
theorem slG_dig {s : ByteArray} {pos n : Nat} (h : pos < s.size) (hn : s.size - pos ≤ n) (hd : dig (s[pos]'h) = true) (acc : List Int) (cur : List UInt8) : ∃ m, slG s n pos acc cur = slG s m (pos + 1) acc (cur ++ [s[pos]'h]) ∧ s.size - (pos + 1) ≤ m := by
  cases n with
  | zero => omega
  | succ n => exact ⟨n, by rw [slG, dif_pos h, if_pos hd], by omega⟩
theorem slG_point {s : ByteArray} {pos n : Nat} (h : pos < s.size) (hn : s.size - pos ≤ n) (hd : s[pos]'h = 46) (acc : List Int) (cur : List UInt8) : ∃ m, slG s n pos acc cur = slG s m (pos + 1) (fl acc cur) [] ∧ s.size - (pos + 1) ≤ m := by
  cases n with
  | zero => omega
  | succ n =>
    refine ⟨n, ?_, by omega⟩
    have h1 : ¬ dig (s[pos]'h) = true := by rw [hd]; decide
    rw [slG, dif_pos h, if_neg h1, if_pos hd]
theorem slG_other {s : ByteArray} {pos n : Nat} (h : pos < s.size) (hn : s.size - pos ≤ n) (hd : dig (s[pos]'h) = false) (h46 : s[pos]'h ≠ 46) (acc : List Int) (cur : List UInt8) : slG s n pos acc cur = (fl acc cur, reG s n pos) := by
  cases n with
  | zero => omega
  | succ n => rw [slG, dif_pos h, if_neg (by rw [hd]; decide), if_neg h46]
/-- Bytes below 128 are written as they are. -/
theorem enc_one (c : UInt8) (h : c.toNat < 128) : Utf8.encode (c.toNat : Int) = bs [c] := by
  unfold Utf8.encode
  have hv : Utf8.valid (c.toNat : Int) = true := by
    unfold Utf8.valid
    simp
    omega
  simp only [hv, if_true, Int.toNat_natCast, h]
  have : UInt8.ofNat c.toNat = c := by simp
  rw [this]
  rfl
theorem reG_asc (s : ByteArray) (ha : ∀ (j : Nat) (h : j < s.size), (s[j]'h).toNat < 128) : ∀ (n pos : Nat), s.size - pos ≤ n → reG s n pos = s.toList.drop pos
  | 0, pos, h => by
    rw [reG_end (by omega), List.drop_eq_nil_of_le (by rw [len_toList]; omega)]
  | n + 1, pos, h => by
    by_cases hp : pos < s.size
    · have hb := ha pos hp
      rcases dec_cases' s pos hp with ⟨_, e⟩ | ⟨e, _, _⟩
      · rw [reG, if_pos hp, e, enc_one _ hb, bs_toList]
        show _ ++ reG s n (pos + 1) = _
        rw [reG_asc s ha n (pos + 1) (by omega), List.drop_eq_getElem_cons (i := pos) (by rw [len_toList]; exact hp)]
        have : s.toList[pos]'(by rw [len_toList]; exact hp) = s[pos]'hp := by
          simp only [toList_eq']
          rfl
        rw [this]
        rfl
      · omega
    · rw [reG_end hp, List.drop_eq_nil_of_le (by rw [len_toList]; omega)]
theorem slG_asc (s : ByteArray) (ha : ∀ (j : Nat) (h : j < s.size), (s[j]'h).toNat < 128) : ∀ (n pos : Nat) (acc : List Int) (cur : List UInt8), s.size - pos ≤ n → slG s n pos acc cur = slk acc cur (s.toList.drop pos)
  | 0, pos, acc, cur, h => by
    rw [slG_end (by omega), List.drop_eq_nil_of_le (by rw [len_toList]; omega), slk_nil]
  | n + 1, pos, acc, cur, h => by
    by_cases hp : pos < s.size
    · have hg : s.toList[pos]'(by rw [len_toList]; exact hp) = s[pos]'hp := by
        simp only [toList_eq']
        rfl
      have hr := reG_asc s ha (n + 1) pos h
      rw [slG, dif_pos hp, hr, List.drop_eq_getElem_cons (i := pos) (by rw [len_toList]; exact hp), hg, slk_cons, slG_asc s ha n (pos + 1) acc _ (by omega), slG_asc s ha n (pos + 1) _ [] (by omega)]
    · rw [slG_end hp, List.drop_eq_nil_of_le (by rw [len_toList]; omega), slk_nil]
theorem parseR_asc (s : ByteArray) (ha : ∀ c ∈ s.toList, c.toNat < 128) : parseR s = parse s.toList := by
  unfold parseR parse
  have hb : ∀ c ∈ body s.toList, c.toNat < 128 := fun c hc => by
    unfold body at hc
    split at hc
    · exact ha c (List.mem_of_mem_tail hc)
    · exact ha c hc
  have hl : (bs (body s.toList)).size ≤ s.size := by
    rw [bs_size, ← len_toList s]
    unfold body
    split
    · rw [List.length_tail]; omega
    · exact Nat.le_refl _
  rw [slG_asc (bs (body s.toList)) (fun j h => hb _ ?_) s.size 0 [] [] (by omega), bs_toList, List.drop_zero]
  have : (bs (body s.toList))[j]'h = (body s.toList)[j]'(by rw [bs_size] at h; exact h) := rfl
  rw [this]
  exact List.getElem_mem _
theorem enc_size (r : Int) : (Utf8.encode r).size ≤ 4 := by
  unfold Utf8.encode
  dsimp only
  repeat' split
  all_goals first | exact (by decide : 1 ≤ 4) | exact (by decide : 2 ≤ 4) | exact (by decide : 3 ≤ 4) | exact (by decide : 4 ≤ 4)
theorem reG_len (s : ByteArray) : ∀ (n pos : Nat), (reG s n pos).length ≤ 4 * n
  | 0, pos => Nat.le_refl _
  | n + 1, pos => by
    have h1 := enc_size ((Utf8.decode s pos).1 : Int)
    have h2 := reG_len s n (pos + (Utf8.decode s pos).2)
    rw [reG]
    split
    · rw [List.length_append, len_toList]
      omega
    · exact Nat.zero_le _
theorem slG_tl (s : ByteArray) : ∀ (n pos : Nat) (acc : List Int) (cur : List UInt8), (slG s n pos acc cur).2.length ≤ 4 * n
  | 0, pos, acc, cur => Nat.le_refl _
  | n + 1, pos, acc, cur => by
    rw [slG]
    split
    · split
      · have := slG_tl s n (pos + 1) acc (cur ++ [s[pos]])
        omega
      · split
        · have := slG_tl s n (pos + 1) (fl acc cur) []
          omega
        · exact reG_len s (n + 1) pos
    · exact Nat.zero_le _
/-- Digits, at least one, are a number. -/
theorem parse_dig (l : List UInt8) (h0 : l ≠ []) (h : l.all dig = true) : Num.parse l = some (Num.dec l : Int) := by
  cases l with
  | nil => exact absurd rfl h0
  | cons c r =>
    have hc : dig c = true := by
      rw [List.all_cons, Bool.and_eq_true] at h
      exact h.1
    have hd : 48 ≤ c.toNat ∧ c.toNat ≤ 57 := by
      unfold dig at hc
      exact of_decide_eq_true hc
    have e : Num.cutSign (c :: r) = (false, c :: r) := by
      show (if c.toNat = 45 then (true, r) else if c.toNat = 43 then (false, r) else (false, c :: r)) = _
      rw [if_neg (by omega), if_neg (by omega)]
    unfold Num.parse
    rw [e]
    have hg : Num.digits (c :: r) = true := by
      unfold Num.digits
      rw [h]
      rfl
    rw [if_pos hg]
    rfl
end Go.Proofs.YtdliagehkiihpaaGreatDoor.Slk

namespace Go.Proofs.YtdliagehkiihpaaGreatDoor.Slk
open Go.Proofs.YtdliagehkiihpaaGreatDoor.Rpm Go.Proofs.YtdliagehkiihpaaGreatDoor.Ord
set_option linter.unusedVariables false
end Go.Proofs.YtdliagehkiihpaaGreatDoor.Slk

namespace Go.Proofs.YtdliagehkiihpaaGreatDoor.Giv
open Go.RowKit
set_option linter.unusedVariables false

theorem run_nil_nil {P : Program} {ti : TypeId} {ms : Array (String × TypeId)} (hi : P.underlying ti = some (.interface ms)) (w : World) : (binOp .eql ti .nilIface .nilIface).run P w = .ok (.bool true) w := by
  have h : ∀ d : Nat, (Op.equalIn (d + 1) ti .nilIface .nilIface).run P w = .ok true w := fun d => by simp [Op.equalIn, run_underlying hi]
  simp only [binOp]
  simp [show Op.equal ti .nilIface .nilIface = Op.equalIn (9999 + 1) ti .nilIface .nilIface from rfl, h]
theorem bel_drewN {B : Nat} {a w : World} (h : Below B a w) (n : Nat) : Below B a (w.drewN n) := ⟨h.os, h.tape, h.output, h.size, h.block⟩
end Go.Proofs.YtdliagehkiihpaaGreatDoor.Giv

namespace Go.Proofs.YtdliagehkiihpaaGreatDoor.Giv
open Go.RowKit Go.Proofs.YtdliagehkiihpaaGreatDoor.Ord
set_option linter.unusedSimpArgs false
set_option linter.unusedVariables false

def digI (n : Int) : Bool := decide (48 ≤ n ∧ n ≤ 57)
theorem runeDig_calls (n : Int) (w : World) : Calls Tryz.prog 85 #[.int .i32 n] w fun e w' => e = .returned (.bool (digI n)) ∧ w = w' := by
  by_cases h1 : (48 : Int) ≤ n
  · by_cases h2 : n ≤ 57
    · have e : digI n = true := by unfold digI; simp; omega
      rw [e]
      clear e
      go_enter Tryz.func85, Tryz.ntmps85
      go_wp2
      go_ret
      exact ⟨by simp [h2], rfl⟩
    · have e : digI n = false := by unfold digI; simp; omega
      rw [e]
      clear e
      go_enter Tryz.func85, Tryz.ntmps85
      go_wp2
      go_ret
      exact ⟨by simp [h2], rfl⟩
  · have e : digI n = false := by unfold digI; simp; omega
    rw [e]
    clear e
    go_enter Tryz.func85, Tryz.ntmps85
    go_wp2
    go_ret
    exact ⟨by simp [h1], rfl⟩
end Go.Proofs.YtdliagehkiihpaaGreatDoor.Giv

namespace Go.Proofs.YtdliagehkiihpaaGreatDoor.Giv
open Go.RowKit Go.Proofs.YtdliagehkiihpaaGreatDoorW.PrintWords Go.Proofs.YtdliagehkiihpaaGreatDoorW.PrintLast Go.Proofs.YtdliagehkiihpaaGreatDoor.Pk Go.Proofs.YtdliagehkiihpaaGreatDoor.Ord Go.Proofs.YtdliagehkiihpaaGreatDoor.QM
set_option linter.unusedVariables false
set_option linter.unusedSimpArgs false

theorem cell_block {w w1 : World} (p : Addr) (h : w1.heap[p.block]? = w.heap[p.block]?) : w1.cell? p = w.cell? p := by
  unfold World.cell?
  rw [h]
theorem add_block (a : Addr) (k : Nat) : (a.add k).block = a.block := by
  unfold Addr.add
  split <;> rfl
theorem C_moved {α : Type} {enc : α → Value} {h1 : ∀ x, (enc x).oneCell' = true} {w w1 : World} {A : Option Addr} {n : Nat} {xs : List α} (h : (Kd.scalar enc h1).C w A n xs) (hm : ∀ a, A = some a → w1.heap[a.block]? = w.heap[a.block]?) : (Kd.scalar enc h1).C w1 A n xs := by
  refine ⟨h.1, h.2.1, fun h0 => ?_⟩
  obtain ⟨ad, he, hc⟩ := h.2.2 h0
  refine ⟨ad, he, fun j p hj => ?_⟩
  obtain ⟨c, c1, c2, c3⟩ := hc j p hj
  refine ⟨c, c1, c2, fun i u hu => ?_⟩
  rw [cell_block (w := w) (w1 := w1) _ (by rw [add_block]; exact hm ad he)]
  exact c3 i u hu
theorem IsBig.kept {w w1 : World} {b : Nat} {z : Int} (h : IsBig w b z) (hm : ∀ (k : Nat) (cells : Array Value) (q : TypeId), w.heap[k]? = some (Obj.cells cells q (0, 0)) → (q = 117 ∨ q = 137) → w1.heap[k]? = w.heap[k]?) : IsBig w1 b z := by
  obtain ⟨A, c, h1, h3, h4, h5, h6⟩ := h
  have hA : ∀ a, A = some a → w1.heap[a.block]? = w.heap[a.block]? := fun a e => by
    obtain ⟨arr, ha⟩ := h6 a e
    exact hm _ _ _ ha (.inr rfl)
  refine ⟨A, c, (hm _ _ _ h1 (.inl rfl)).trans h1, h3, h4, C_moved h5 hA, fun a e => ?_⟩
  obtain ⟨arr, ha⟩ := h6 a e
  exact ⟨arr, (hA a e).trans ha⟩
/-- Over a step that turns one row alone, of another type. -/
theorem IsBig.grown {w w1 : World} {b : Nat} {z : Int} (h : IsBig w b z) {row : Option Nat} (hg : w.grownBy w1 row) (ht : ∀ (k : Nat) (cells : Array Value) (q : TypeId), row = some k → w.heap[k]? = some (Obj.cells cells q (0, 0)) → q ≠ 117 ∧ q ≠ 137) : IsBig w1 b z := by
  refine h.kept (fun k cells q hk hq => hg.block k (Array.getElem?_eq_some_iff.1 hk).1 (fun e => ?_))
  have := ht k cells q e.symm hk
  rcases hq with hq | hq
  · exact this.1 hq
  · exact this.2 hq
/-- A pointer to a number's block. -/
abbrev ptrK : Kd Nat := Kd.scalar (fun b => .pointer (some ⟨b, 0, none⟩)) (fun _ => rfl)
/-- The numbers at some blocks. -/
def Bigs (w : World) (ps : List Nat) (zs : List Int) : Prop := ps.length = zs.length ∧ ∀ (j p : Nat) (z : Int), ps[j]? = some p → zs[j]? = some z → IsBig w p z
theorem Bigs.below {w w1 : World} {ps : List Nat} {zs : List Int} (h : Bigs w ps zs) (hb : Below w.heap.size w w1) : Bigs w1 ps zs := ⟨h.1, fun j p z h1 h2 => (h.2 j p z h1 h2).below hb⟩
theorem Bigs.nil (w : World) : Bigs w [] [] := ⟨rfl, fun j p z h => by simp at h⟩
theorem Bigs.snoc {w : World} {ps : List Nat} {zs : List Int} {p : Nat} {z : Int} (h : Bigs w ps zs) (hp : IsBig w p z) : Bigs w (ps ++ [p]) (zs ++ [z]) := by
  refine ⟨by simp [h.1], fun j q y h1 h2 => ?_⟩
  rcases Nat.lt_or_ge j ps.length with hj | hj
  · rw [List.getElem?_append_left hj] at h1
    rw [List.getElem?_append_left (by rw [← h.1]; exact hj)] at h2
    exact h.2 j q y h1 h2
  · rw [List.getElem?_append_right hj] at h1
    rw [List.getElem?_append_right (by rw [← h.1]; exact hj), ← h.1] at h2
    obtain ⟨e, _⟩ := List.getElem?_eq_some_iff.1 h1
    have e0 : j - ps.length = 0 := by simp at e; omega
    rw [e0] at h1 h2
    simp at h1 h2
    rw [← h1, ← h2]
    exact hp
/-- A row of numbers that is read. -/
def BRow (w : World) (A : Option Addr) (zs : List Int) : Prop := ∃ ps, ptrK.C w A zs.length ps ∧ Bigs w ps zs
theorem BRow.below {w w1 : World} {A : Option Addr} {zs : List Int} (h : BRow w A zs) (hb : Below w.heap.size w w1) : BRow w1 A zs := by
  obtain ⟨ps, h1, h2⟩ := h
  exact ⟨ps, Kd.C_below h1 hb, h2.below hb⟩
theorem BRow.nil (w : World) : BRow w none [] := ⟨[], Kd.C_nil _ _, Bigs.nil w⟩
theorem BRow.at_ {w : World} {A : Option Addr} {zs : List Int} (h : BRow w A zs) (i : Nat) (hi : i < zs.length) : ∃ ad p, A = some ad ∧ w.cell? (ad.add i) = some (.pointer (some ⟨p, 0, none⟩)) ∧ IsBig w p (zs[i]'hi) := by
  obtain ⟨ps, h1, h2⟩ := h
  have hlp : i < ps.length := by rw [h2.1]; exact hi
  obtain ⟨ad, e, c⟩ := h1.2.2 (by omega)
  obtain ⟨cs, c1, c2, c3⟩ := c i _ (List.getElem?_eq_getElem hlp)
  refine ⟨ad, ps[i]'hlp, e, ?_, h2.2 i _ _ (List.getElem?_eq_getElem hlp) (List.getElem?_eq_getElem hi)⟩
  have c2' : cs = [.pointer (some ⟨ps[i]'hlp, 0, none⟩)] := c2
  have := c3 0 (.pointer (some ⟨ps[i]'hlp, 0, none⟩)) (by rw [c2']; rfl)
  have e1 : i * (ptrK).sz + 0 = i := by
    show i * 1 + 0 = i
    omega
  rwa [e1] at this
/-- A row of numbers of the call's own. -/
def BOwn (w : World) (base : Nat) (v : Value) (zs : List Int) : Prop := ∃ ps, ptrK.R 94 w base (fun _ => True) v ps ∧ Bigs w ps zs
theorem BOwn.nil (w : World) (base : Nat) : BOwn w base (.slice none 0 0) [] := ⟨[], Kd.R_nil _ _ _ _ _, Bigs.nil w⟩
theorem BOwn.below {w w1 : World} {base : Nat} {v : Value} {zs : List Int} (h : BOwn w base v zs) (hb : Below w.heap.size w w1) : BOwn w1 base v zs := by
  obtain ⟨ps, h1, h2⟩ := h
  exact ⟨ps, Kd.R_below h1 hb, h2.below hb⟩
theorem BOwn.slice {w : World} {base : Nat} {v : Value} {zs : List Int} (h : BOwn w base v zs) : ∃ A c, v = .slice A zs.length c ∧ zs.length ≤ c ∧ BRow w A zs := by
  obtain ⟨ps, h1, h2⟩ := h
  obtain ⟨A, c, e, hc, hr⟩ := Kd.R_reads h1
  rw [h2.1] at e hc hr
  exact ⟨A, c, e, hc, ps, hr, h2⟩
theorem BOwn.lower {w : World} {base base' : Nat} {v : Value} {zs : List Int} (h : BOwn w base v zs) (hb : base' ≤ base) : BOwn w base' v zs := by
  obtain ⟨ps, h1, h2⟩ := h
  exact ⟨ps, Kd.R_lower h1 hb, h2⟩
/-- What an append of a number leaves. -/
theorem BOwn.more {w w1 : World} {base : Nat} {v v1 : Value} {ps : List Nat} {zs : List Int} {p : Nat} {z : Int} (h1 : ptrK.R 94 w base (fun _ => True) v ps) (h2 : Bigs w ps zs) (hp : IsBig w p z) (hr : ptrK.R 94 w1 base (fun _ => True) v1 (ps ++ [p])) (hg : w.grownBy w1 v.ownBlock) : BOwn w1 base v1 (zs ++ [z]) := by
  obtain ⟨inner, ho⟩ := Kd.R_own h1
  have ht : ∀ (k : Nat) (cells : Array Value) (q : TypeId), v.ownBlock = some k → w.heap[k]? = some (Obj.cells cells q (0, 0)) → q ≠ 117 ∧ q ≠ 137 := by
    intro k cells q hk hc
    obtain ⟨cells', hc'⟩ := own_typed ho k hk
    rw [hc] at hc'
    injection hc' with hc'
    injection hc' with _ hc'
    rw [hc']
    decide
  exact ⟨_, hr, Bigs.snoc ⟨h2.1, fun j q y e1 e2 => (h2.2 j q y e1 e2).grown hg ht⟩ (hp.grown hg ht)⟩
/-- Over a store into a block of another type. -/
theorem IsBig.put {w : World} {b : Nat} {z : Int} (h : IsBig w b z) {g t : Nat} {cells : Array Value} (hb : w.heap[g]? = some (Obj.cells cells t (0, 0))) (ht : t ≠ 117 ∧ t ≠ 137) (j : Nat) (u : Value) : IsBig (w.setCell ⟨g, j, none⟩ u) b z := by
  refine h.kept (fun k cells' q hk hq => Below.heap_setCell w ⟨g, j, none⟩ u k (fun e => ?_))
  have e' : k = g := e
  rw [e', hb] at hk
  injection hk with hk
  injection hk with _ hk
  rcases hq with hq | hq
  · exact ht.1 (hk.trans hq)
  · exact ht.2 (hk.trans hq)
theorem BOwn.put {w : World} {base : Nat} {v : Value} {zs : List Int} (h : BOwn w base v zs) {g t : Nat} {cells : Array Value} (hb : w.heap[g]? = some (Obj.cells cells t (0, 0))) (ht : t ≠ 117 ∧ t ≠ 137) (hp : t ≠ 94) (j : Nat) (u : Value) : BOwn (w.setCell ⟨g, j, none⟩ u) base v zs := by
  obtain ⟨ps, h1, h2⟩ := h
  refine ⟨ps, Kd.R_set h1 hb (fun q hq => ?_) j u, h2.1, fun i p z e1 e2 => (h2.2 i p z e1 e2).put hb ht j u⟩
  rcases List.mem_cons.1 hq with e | e
  · rw [e]; exact fun e2 => hp e2.symm
  · exact absurd e List.not_mem_nil
theorem wd_zero : ws (wd 0) = [] := by
  unfold wd
  rw [show (0 : Int).natAbs = 0 from rfl, Dg.dg_zero]
  rfl
theorem isBig_zero (w : World) : IsBig (w.alloc (.cells #[.bool false, .slice none 0 0] 117)) w.heap.size 0 := by
  unfold IsBig
  rw [wd_zero]
  exact ⟨none, 0, blk_new _ _, Nat.le_refl _, Nat.zero_le _, Kd.C_nil _ _, fun a e => by cases e⟩
set_option maxHeartbeats 1000000 in
theorem newInt_calls (w : World) : Calls Tryz.prog 104 #[.int .i64 0] w fun e w' => ∃ b, e = .returned (.pointer (some ⟨b, 0, none⟩)) ∧ IsBig w' b 0 ∧ Below w.heap.size w w' := by
  go_enter Tryz.func104, Tryz.ntmps104
  go_wp2_with fail
  go_ret
  exact ⟨_, rfl, isBig_zero _, below_alloc (Below.refl _ _) _⟩
set_option maxHeartbeats 1000000 in
theorem compFetch_calls (g o : Nat) (A : Option Addr) (c : Nat) (zs : List Int) (k : Nat) (w : World) (hc : w.cell? ⟨g, o, none⟩ = some (.slice A zs.length c)) (hr : BRow w A zs) :
    Calls Tryz.prog 90 #[.pointer (some ⟨g, o, none⟩), .int .i64 k] w fun e w' => ∃ b, e = .returned (.pointer (some ⟨b, 0, none⟩)) ∧ IsBig w' b (zs.getD k 0) ∧ Below w.heap.size w w' := by
  by_cases hk : k < zs.length
  · obtain ⟨ad, p, rfl, hp, hb⟩ := hr.at_ k hk
    have hz : zs.getD k 0 = zs[k]'hk := by rw [List.getD_eq_getElem?_getD, List.getElem?_eq_getElem hk]; rfl
    have HZ := Aside0.mk hz
    have HB := Aside0.mk hb
    have f1 : decide ((zs.length : Int) ≤ (k : Int)) = false := decide_eq_false (by omega)
    have f2 : decide ((zs.length : Int) ≤ k) = false := f1
    have g1 : (k : Int) < (zs.length : Int) := by omega
    clear hz hb hr
    go_enter Tryz.func90, Tryz.ntmps90
    go_wp2_with fail
    go_ret
    exact ⟨_, rfl, by rw [HZ.out]; exact HB.out, Below.refl _ _⟩
  · have hz : zs.getD k 0 = 0 := by rw [List.getD_eq_getElem?_getD, List.getElem?_eq_none (by omega)]; rfl
    have f1 : decide ((zs.length : Int) ≤ (k : Int)) = true := decide_eq_true (by omega)
    have HZ := Aside0.mk hz
    clear hz hr
    go_enter Tryz.func90, Tryz.ntmps90
    go_wp2_with (first | (go_at_call 104; (with_reducible refine (newInt_calls _).mono ?_); rintro e w1 ⟨b, rfl, hb, h1⟩; have HB := Aside0.mk hb; have H1 := Aside0.mk h1; clear hb h1))
    go_ret
    exact ⟨_, rfl, by rw [HZ.out]; exact HB.out, H1.out⟩
theorem padI_step (a b : List Int) (n k : Nat) (h : k < n) : padN cI 0 (n - k) (a.drop k) (b.drop k) = if cI (a.getD k 0) (b.getD k 0) = 0 then padN cI 0 (n - (k + 1)) (a.drop (k + 1)) (b.drop (k + 1)) else cI (a.getD k 0) (b.getD k 0) := by
  have hd : ∀ l : List Int, (l.drop k).headD 0 = l.getD k 0 := fun l => by
    rw [List.getD_eq_getElem?_getD, ← List.head?_drop]
    cases l.drop k <;> rfl
  rw [show n - k = (n - (k + 1)) + 1 by omega, padN, hd, hd, List.tail_drop, List.tail_drop]
set_option maxRecDepth 100000 in
set_option maxHeartbeats 4000000 in
/-- Two rows of numbers compared: one after the other, the shorter one filled up with 0. -/
theorem compCmp_calls (g o : Nat) (A0 A1 : Option Addr) (c0 c1 : Nat) (a b : List Int) (w : World) (hc : w.cell? ⟨g, o, none⟩ = some (.slice A0 a.length c0)) (ha : BRow w A0 a) (hb : BRow w A1 b) (hla : a.length ≤ 1000000) (hlb : b.length ≤ 1000000) :
    Calls Tryz.prog 68 #[.pointer (some ⟨g, o, none⟩), .slice A1 b.length c1] w fun e w' => e = .returned (.int .i64 (padL cI 0 a b)) ∧ Below w.heap.size w w' := by
  have HA := Aside0.mk ha
  have HB := Aside0.mk hb
  have HC := Aside0.mk hc
  obtain ⟨n, en⟩ : ∃ n, n = max a.length b.length := ⟨_, rfl⟩
  have EP : Aside0 (padL cI 0 a b = padN cI 0 n a b) := Aside0.mk (by unfold padL; rw [← en])
  have hn : n ≤ 1000000 := by omega
  clear ha hb
  have hb0 : Below w.heap.size w (w.alloc (.cells #[.slice A1 b.length c1] 44)) := below_alloc (Below.refl _ _) _
  have k0 := pw_cell_below hb0 hc
  have HB0 := Aside0.mk hb0
  clear hb0 hc
  by_cases hab : (a.length : Int) < (b.length : Int)
  · have EN := Aside0.mk (show n = b.length by omega)
    clear en
    go_enter Tryz.func68, Tryz.ntmps68
    go_wp2_with fail
    go_quiet (fail)
    go_wp2_with fail
    clear k0
    go_loopw [16] (fun v16 wr => ∃ k : Nat, v16 = .int .i64 k ∧ k ≤ n ∧ Below w.heap.size w wr ∧ wr.heap[w.heap.size]? = some (.cells #[.slice A1 b.length c1] 44 (0, 0)) ∧ padN cI 0 (n - k) (a.drop k) (b.drop k) = padN cI 0 n a b) (fun v16 wr => n - (intOf v16).toNat)
    case atStart => exact ⟨0, rfl, Nat.zero_le _, pw_below_drewN HB0.out _, blk_new _ _, rfl⟩
    case round =>
      obtain ⟨k, rfl, hk, hbw, hblk, hpad⟩ := hrel
      have BL := Aside0.mk hbw
      have BS := Aside0.mk hbw.size
      have BK := Aside0.mk hblk
      have LT := Aside0.mk (blk_lt hblk)
      by_cases hlt : k < n
      · have st := padI_step a b n k hlt
        rw [hpad] at st
        have fa := fun (w' : World) (hb' : Below w.heap.size w w') => compFetch_calls g o A0 c0 a k w' (pw_cell_below hb' HC.out) (HA.out.below hb')
        have fb := fun (w' : World) (hk' : w'.heap[w.heap.size]? = some (.cells #[.slice A1 b.length c1] 44 (0, 0))) (hb' : Below w.heap.size w w') => compFetch_calls w.heap.size 0 A1 c1 b k w' (blk_cell hk' 0) (HB.out.below hb')
        generalize a.getD k 0 = x at *
        generalize b.getD k 0 = y at *
        have wk : wrap64 ((k : Int) + 1) = ((k + 1 : Nat) : Int) := Pk.wr k (by omega)
        have f4 : (k : Int) < (b.length : Int) := by have := EN.out; omega
        have kn : k + 1 ≤ n := hlt
        have cm := fun b1 b2 w' (h1 : IsBig w' b1 x) (h2 : IsBig w' b2 y) => Cmp_calls x y b1 b2 w' h1 h2
        clear hpad hbw hblk hlt hn hla hlb
        generalize cI x y = c at *
        by_cases hz : c = 0
        · subst hz
          rw [if_pos rfl] at st
          have ST := Aside0.mk st
          clear st
          go_wp2_with (first | (go_at_call 90; (with_reducible refine (fa _ BL.out).mono ?_); rintro e w1 ⟨b1, rfl, q1, d1⟩; have BL1 := Aside0.mk (below_then BL.out BS.out d1); have BS1 := Aside0.mk (Nat.le_trans BS.out d1.size); have Q1 := Aside0.mk q1; have K1 := Aside0.mk ((d1.block _ LT.out).trans BK.out); clear d1 q1) | (go_at_call 90; (with_reducible refine (fb _ K1.out BL1.out).mono ?_); rintro e w2 ⟨b2, rfl, q2, d2⟩; have BL2 := Aside0.mk (below_then BL1.out BS1.out d2); have BS2 := Aside0.mk (Nat.le_trans BS1.out d2.size); have Q2 := Aside0.mk q2; have D2 := Aside0.mk d2; have K2 := Aside0.mk ((d2.block _ (blk_lt K1.out)).trans K1.out); clear d2 q2) | (go_at_call 71; (with_reducible refine (cm _ _ _ (Q1.out.below D2.out) Q2.out).mono ?_); rintro e w3 ⟨rfl, d3⟩; have BL3 := Aside0.mk (below_then BL2.out BS2.out d3.below); have K3 := Aside0.mk ((d3.below.block _ (blk_lt K2.out)).trans K2.out); clear d3))
          rw [wk]
          exact ⟨⟨k + 1, rfl, kn, BL3.out, K3.out, ST.out.symm⟩, by simp only [intOf]; omega⟩
        · rw [if_neg hz] at st
          have nz : (c != 0) = true := bne_iff_ne.2 hz
          have ST := Aside0.mk (EP.out.trans st)
          clear st hz
          go_wp2_with (first | (go_at_call 90; (with_reducible refine (fa _ BL.out).mono ?_); rintro e w1 ⟨b1, rfl, q1, d1⟩; have BL1 := Aside0.mk (below_then BL.out BS.out d1); have BS1 := Aside0.mk (Nat.le_trans BS.out d1.size); have Q1 := Aside0.mk q1; have K1 := Aside0.mk ((d1.block _ LT.out).trans BK.out); clear d1 q1) | (go_at_call 90; (with_reducible refine (fb _ K1.out BL1.out).mono ?_); rintro e w2 ⟨b2, rfl, q2, d2⟩; have BL2 := Aside0.mk (below_then BL1.out BS1.out d2); have BS2 := Aside0.mk (Nat.le_trans BS1.out d2.size); have Q2 := Aside0.mk q2; have D2 := Aside0.mk d2; have K2 := Aside0.mk ((d2.block _ (blk_lt K1.out)).trans K1.out); clear d2 q2) | (go_at_call 71; (with_reducible refine (cm _ _ _ (Q1.out.below D2.out) Q2.out).mono ?_); rintro e w3 ⟨rfl, d3⟩; have BL3 := Aside0.mk (below_then BL2.out BS2.out d3.below); have K3 := Aside0.mk ((d3.below.block _ (blk_lt K2.out)).trans K2.out); clear d3))
          go_ret
          exact ⟨by rw [ST.out]; rfl, BL3.out⟩
      · have ek : k = n := by omega
        have E0 := Aside0.mk (show padL cI 0 a b = 0 by
          rw [EP.out, ← hpad, ek, Nat.sub_self]
          rfl)
        have f4 : ¬ (k : Int) < (b.length : Int) := by have := EN.out; omega
        clear hpad hbw hblk ek hlt
        go_wp2_with fail
        go_ret
        exact ⟨by rw [E0.out]; rfl, BL.out⟩
  · have EN := Aside0.mk (show n = a.length by omega)
    clear en
    go_enter Tryz.func68, Tryz.ntmps68
    go_wp2_with fail
    go_quiet (fail)
    go_wp2_with fail
    clear k0
    go_loopw [16] (fun v16 wr => ∃ k : Nat, v16 = .int .i64 k ∧ k ≤ n ∧ Below w.heap.size w wr ∧ wr.heap[w.heap.size]? = some (.cells #[.slice A1 b.length c1] 44 (0, 0)) ∧ padN cI 0 (n - k) (a.drop k) (b.drop k) = padN cI 0 n a b) (fun v16 wr => n - (intOf v16).toNat)
    case atStart => exact ⟨0, rfl, Nat.zero_le _, pw_below_drewN HB0.out _, blk_new _ _, rfl⟩
    case round =>
      obtain ⟨k, rfl, hk, hbw, hblk, hpad⟩ := hrel
      have BL := Aside0.mk hbw
      have BS := Aside0.mk hbw.size
      have BK := Aside0.mk hblk
      have LT := Aside0.mk (blk_lt hblk)
      by_cases hlt : k < n
      · have st := padI_step a b n k hlt
        rw [hpad] at st
        have fa := fun (w' : World) (hb' : Below w.heap.size w w') => compFetch_calls g o A0 c0 a k w' (pw_cell_below hb' HC.out) (HA.out.below hb')
        have fb := fun (w' : World) (hk' : w'.heap[w.heap.size]? = some (.cells #[.slice A1 b.length c1] 44 (0, 0))) (hb' : Below w.heap.size w w') => compFetch_calls w.heap.size 0 A1 c1 b k w' (blk_cell hk' 0) (HB.out.below hb')
        generalize a.getD k 0 = x at *
        generalize b.getD k 0 = y at *
        have wk : wrap64 ((k : Int) + 1) = ((k + 1 : Nat) : Int) := Pk.wr k (by omega)
        have f4 : (k : Int) < (a.length : Int) := by have := EN.out; omega
        have kn : k + 1 ≤ n := hlt
        have cm := fun b1 b2 w' (h1 : IsBig w' b1 x) (h2 : IsBig w' b2 y) => Cmp_calls x y b1 b2 w' h1 h2
        clear hpad hbw hblk hlt hn hla hlb
        generalize cI x y = c at *
        by_cases hz : c = 0
        · subst hz
          rw [if_pos rfl] at st
          have ST := Aside0.mk st
          clear st
          go_wp2_with (first | (go_at_call 90; (with_reducible refine (fa _ BL.out).mono ?_); rintro e w1 ⟨b1, rfl, q1, d1⟩; have BL1 := Aside0.mk (below_then BL.out BS.out d1); have BS1 := Aside0.mk (Nat.le_trans BS.out d1.size); have Q1 := Aside0.mk q1; have K1 := Aside0.mk ((d1.block _ LT.out).trans BK.out); clear d1 q1) | (go_at_call 90; (with_reducible refine (fb _ K1.out BL1.out).mono ?_); rintro e w2 ⟨b2, rfl, q2, d2⟩; have BL2 := Aside0.mk (below_then BL1.out BS1.out d2); have BS2 := Aside0.mk (Nat.le_trans BS1.out d2.size); have Q2 := Aside0.mk q2; have D2 := Aside0.mk d2; have K2 := Aside0.mk ((d2.block _ (blk_lt K1.out)).trans K1.out); clear d2 q2) | (go_at_call 71; (with_reducible refine (cm _ _ _ (Q1.out.below D2.out) Q2.out).mono ?_); rintro e w3 ⟨rfl, d3⟩; have BL3 := Aside0.mk (below_then BL2.out BS2.out d3.below); have K3 := Aside0.mk ((d3.below.block _ (blk_lt K2.out)).trans K2.out); clear d3))
          rw [wk]
          exact ⟨⟨k + 1, rfl, kn, BL3.out, K3.out, ST.out.symm⟩, by simp only [intOf]; omega⟩
        · rw [if_neg hz] at st
          have nz : (c != 0) = true := bne_iff_ne.2 hz
          have ST := Aside0.mk (EP.out.trans st)
          clear st hz
          go_wp2_with (first | (go_at_call 90; (with_reducible refine (fa _ BL.out).mono ?_); rintro e w1 ⟨b1, rfl, q1, d1⟩; have BL1 := Aside0.mk (below_then BL.out BS.out d1); have BS1 := Aside0.mk (Nat.le_trans BS.out d1.size); have Q1 := Aside0.mk q1; have K1 := Aside0.mk ((d1.block _ LT.out).trans BK.out); clear d1 q1) | (go_at_call 90; (with_reducible refine (fb _ K1.out BL1.out).mono ?_); rintro e w2 ⟨b2, rfl, q2, d2⟩; have BL2 := Aside0.mk (below_then BL1.out BS1.out d2); have BS2 := Aside0.mk (Nat.le_trans BS1.out d2.size); have Q2 := Aside0.mk q2; have D2 := Aside0.mk d2; have K2 := Aside0.mk ((d2.block _ (blk_lt K1.out)).trans K1.out); clear d2 q2) | (go_at_call 71; (with_reducible refine (cm _ _ _ (Q1.out.below D2.out) Q2.out).mono ?_); rintro e w3 ⟨rfl, d3⟩; have BL3 := Aside0.mk (below_then BL2.out BS2.out d3.below); have K3 := Aside0.mk ((d3.below.block _ (blk_lt K2.out)).trans K2.out); clear d3))
          go_ret
          exact ⟨by rw [ST.out]; rfl, BL3.out⟩
      · have ek : k = n := by omega
        have E0 := Aside0.mk (show padL cI 0 a b = 0 by
          rw [EP.out, ← hpad, ek, Nat.sub_self]
          rfl)
        have f4 : ¬ (k : Int) < (a.length : Int) := by have := EN.out; omega
        clear hpad hbw hblk ek hlt
        go_wp2_with fail
        go_ret
        exact ⟨by rw [E0.out]; rfl, BL.out⟩
end Go.Proofs.YtdliagehkiihpaaGreatDoor.Giv

namespace Go.Proofs.YtdliagehkiihpaaGreatDoor.Giv
open Go.RowKit Go.Proofs.YtdliagehkiihpaaGreatDoorW.PrintWords Go.Proofs.YtdliagehkiihpaaGreatDoorW.PrintLast Go.Proofs.YtdliagehkiihpaaGreatDoor.Pk Go.Proofs.YtdliagehkiihpaaGreatDoor.Ord Go.Proofs.YtdliagehkiihpaaGreatDoor.Rpm
set_option linter.unusedVariables false
set_option linter.unusedSimpArgs false
theorem sx_ptrInfo : (Tryz.prog.info? 94).map (fun i => (i.zero, i.size, i.bytes)) = some (some (.pointer none), 1, 8) := by kernel_rfl
/-- Over a step of an iterator. -/
theorem BOwn.iter {w : World} {base : Nat} {v : Value} {zs : List Int} {it : Nat} {s : ByteArray} {pos : Nat} (h : BOwn w base v zs) (hit : w.heap[it]? = some (.stringIter s pos)) (q : Nat) : BOwn (w.iterAt it s q) base v zs := by
  obtain ⟨ps, h1, h2⟩ := h
  have ne : ∀ (k : Nat) (cells : Array Value) (t : TypeId), w.heap[k]? = some (Obj.cells cells t (0, 0)) → k ≠ it := fun k cells t hk e => by
    rw [e, hit] at hk
    cases hk
  refine ⟨ps, Kd.R_mono (Kd.R_move (Kd.R_bound h1) (fun k hk => ?_)) (fun _ hk => hk.1), h2.1, fun j p z e1 e2 => (h2.2 j p z e1 e2).kept (fun k cells t hk _ => Lib.iterAt_other w it k s q (ne k cells t hk))⟩
  obtain ⟨_, _, _, t, _, cells, hc⟩ := hk
  exact Lib.iterAt_other w it k s q (ne k cells t hc)
theorem sx_nil : (⟨#[]⟩ : ByteArray).toList = [] := by rw [toList_eq']
theorem sx_has (l : List UInt8) : Lib.hasPrefix l [118] = Slk.lead l := by
  unfold Slk.lead Lib.hasPrefix
  cases l with
  | nil => rfl
  | cons c r =>
    show ((118 : UInt8) == c && List.isPrefixOf [] r) = (some c == some 118)
    have e : List.isPrefixOf ([] : List UInt8) r = true := by cases r <;> rfl
    rw [e, Bool.and_true]
    by_cases h : c = 118
    · subst h; rfl
    · rw [beq_eq_false_iff_ne.2 (Ne.symm h)]
      exact (beq_eq_false_iff_ne.2 (fun e => h (Option.some.inj e))).symm
theorem sx_data (l : List UInt8) : (bs l).data.toList = l := by unfold bs; simp
theorem sx_prefix (l : List UInt8) (w : World) : Calls Tryz.prog 83 #[.string (bs l), .string ⟨#[118]⟩] w fun e w' => e = .returned (.bool (Slk.lead l)) ∧ w' = w := by
  have := Tryz.strings_HasPrefix (bs l) ⟨#[118]⟩ w
  have e : Lib.hasPrefix (bs l).data.toList (⟨#[118]⟩ : ByteArray).data.toList = Slk.lead l := by
    rw [sx_data]
    exact sx_has l
  rw [e] at this
  exact this
theorem sx_trim (l : List UInt8) (w : World) : Calls Tryz.prog 84 #[.string (bs l), .string ⟨#[118]⟩] w fun e w' => e = .returned (.string (bs (Slk.body l))) ∧ w' = w := by
  have := Tryz.strings_TrimPrefix (bs l) ⟨#[118]⟩ w
  have e : (⟨(Lib.trimPrefix (bs l).data.toList (⟨#[118]⟩ : ByteArray).data.toList).toArray⟩ : ByteArray) = bs (Slk.body l) := by
    rw [sx_data]
    show bs (if Lib.hasPrefix l [118] = true then l.drop 1 else l) = _
    rw [sx_has, List.drop_one]
    rfl
  rw [e] at this
  exact this
theorem BOwn.sx4 {w : World} {base : Nat} {v : Value} {zs : List Int} (h : BOwn w base v zs) {g t : Nat} {cells : Array Value} (hb : w.heap[g]? = some (Obj.cells cells t (0, 0))) (ht : t ≠ 117 ∧ t ≠ 137) (hp : t ≠ 94) (v0 v1 v2 v3 : Value) : BOwn ((((w.setCell ⟨g, 0, none⟩ v0).setCell ⟨g, 1, none⟩ v1).setCell ⟨g, 2, none⟩ v2).setCell ⟨g, 3, none⟩ v3) base v zs := by
  have b1 := Joins.block_setCell (i := 0) hb v0
  have b2 := Joins.block_setCell (i := 1) b1 v1
  have b3 := Joins.block_setCell (i := 2) b2 v2
  exact (((h.put hb ht hp 0 v0).put b1 ht hp 1 v1).put b2 ht hp 2 v2).put b3 ht hp 3 v3
theorem sx_put4 {w : World} {g t : Nat} {x0 x1 x2 x3 : Value} (hb : w.heap[g]? = some (Obj.cells #[x0, x1, x2, x3] t (0, 0))) (v0 v1 v2 v3 : Value) : ((((w.setCell ⟨g, 0, none⟩ v0).setCell ⟨g, 1, none⟩ v1).setCell ⟨g, 2, none⟩ v2).setCell ⟨g, 3, none⟩ v3).heap[g]? = some (Obj.cells #[v0, v1, v2, v3] t (0, 0)) := by
  have b1 := Joins.block_setCell (i := 0) hb v0
  have b2 := Joins.block_setCell (i := 1) b1 v1
  have b3 := Joins.block_setCell (i := 2) b2 v2
  exact Joins.block_setCell (i := 3) b3 v3
/-- What the loop keeps. -/
structure SxI (w : World) (t : ByteArray) (full : List Int × List UInt8) (v3 : Value) (pos n : Nat) (acc : List Int) (x : ByteArray) (fb : Bool) (wr : World) : Prop where
  bel : Below w.heap.size w wr
  it : wr.heap[w.heap.size + 1]? = some (.stringIter t pos)
  cell : wr.heap[w.heap.size]? = some (Obj.cells #[Value.bool false, .slice none 0 0, .string ⟨#[]⟩, .string ⟨#[]⟩] 46 (0, 0))
  own : BOwn wr (w.heap.size + 2) v3 acc
  fuel : t.size - pos ≤ n
  low : w.heap.size + 2 ≤ wr.heap.size
  st : (fb = false ∧ x.toList.all dig = true ∧ full = Slk.slG t n pos acc x.toList ∧ x.size ≤ pos ∧ acc.length ≤ pos ∧ pos ≤ t.size) ∨ (fb = true ∧ full = (acc, x.toList ++ Slk.reG t n pos))
theorem SxI.keep {w w0 w5 : World} {t : ByteArray} {q : Nat} (h1 : w0.heap[w.heap.size + 1]? = some (.stringIter t q)) (h2 : w0.heap[w.heap.size]? = some (Obj.cells #[Value.bool false, .slice none 0 0, .string ⟨#[]⟩, .string ⟨#[]⟩] 46 (0, 0))) (hb : Below (w.heap.size + 2) w0 w5) : w5.heap[w.heap.size + 1]? = some (.stringIter t q) ∧ w5.heap[w.heap.size]? = some (Obj.cells #[Value.bool false, .slice none 0 0, .string ⟨#[]⟩, .string ⟨#[]⟩] 46 (0, 0)) :=
  ⟨(hb.block _ (by omega)).trans h1, (hb.block _ (by omega)).trans h2⟩
theorem SxI.start (w : World) (t : ByteArray) (full : List Int × List UInt8) (n : Nat) (hn : t.size ≤ n) (hf : full = Slk.slG t n 0 [] []) : SxI w t full (.slice none 0 0) 0 n [] ⟨#[]⟩ false ((w.alloc (Obj.cells #[Value.bool false, .slice none 0 0, .string ⟨#[]⟩, .string ⟨#[]⟩] 46)).alloc (.stringIter t 0)) := by
  refine ⟨below_alloc (below_alloc (Below.refl w.heap.size w) (Obj.cells #[Value.bool false, .slice none 0 0, .string ⟨#[]⟩, .string ⟨#[]⟩] 46)) _, ?_, blk_alloc (blk_new w (Obj.cells #[Value.bool false, .slice none 0 0, .string ⟨#[]⟩, .string ⟨#[]⟩] 46)) _, BOwn.nil _ _, by omega, by simp, .inl ⟨rfl, by rw [sx_nil]; rfl, by rw [sx_nil]; exact hf, Nat.le_refl _, Nat.le_refl _, Nat.zero_le _⟩⟩
  have := heap_alloc_new (w.alloc (Obj.cells #[Value.bool false, .slice none 0 0, .string ⟨#[]⟩, .string ⟨#[]⟩] 46)) (.stringIter t 0)
  simpa using this
theorem sx_empty {x : ByteArray} (h : x.toList.isEmpty = true) : x = ⟨#[]⟩ := by
  have h1 : x.toList = [] := List.isEmpty_iff.1 h
  rw [bs_of x, h1]
  rfl
set_option maxRecDepth 100000 in
set_option maxHeartbeats 8000000 in
theorem parseLike_calls (s : ByteArray) (w : World) (hs : s.size ≤ 40000) (hL : Laid w) :
    Calls Tryz.prog 66 #[.string s] w fun e w' => ∃ v, e = .returned (.agg #[.bool (Slk.lead s.toList), v, .string (bs (Slk.parseR s).2), .string s]) ∧ BOwn w' w.heap.size v (Slk.parseR s).1 ∧ Below w.heap.size w w' := by
  have c1 := fun w' => sx_prefix s.toList w'
  have c2 := fun w' => sx_trim s.toList w'
  rw [← bs_of] at c1 c2
  have hf : Slk.parseR s = Slk.slG (bs (Slk.body s.toList)) s.size 0 [] [] := rfl
  have ht : (bs (Slk.body s.toList)).size ≤ s.size := by
    rw [bs_size, ← len_toList s]
    unfold Slk.body
    split
    · rw [List.length_tail]; omega
    · exact Nat.le_refl _
  generalize Slk.parseR s = full at *
  generalize Slk.lead s.toList = lv at *
  generalize bs (Slk.body s.toList) = t at *
  have HF := Aside0.mk hf
  have HL := Aside0.mk hL
  have al := below_alloc (Below.refl w.heap.size w) (Obj.cells #[Value.bool false, .slice none 0 0, .string ⟨#[]⟩, .string ⟨#[]⟩] 46)
  have AL := Aside0.mk al
  have K0 := Aside0.mk (blk_new w (Obj.cells #[Value.bool false, .slice none 0 0, .string ⟨#[]⟩, .string ⟨#[]⟩] 46))
  have HT := Aside0.mk (show t.size ≤ 40000 by omega)
  have TB := Aside0.mk (show full.2.length ≤ 160000 by rw [hf]; have := Slk.slG_tl t s.size 0 [] []; omega)
  have HT2 := Aside0.mk ht
  clear hf hL al hs ht
  go_enter Tryz.func66, Tryz.ntmps66
  go_wp2_with (first | (go_at_call 83; (with_reducible refine (c1 _).mono ?_); rintro e w1 ⟨rfl, rfl⟩) | (go_at_call 84; (with_reducible refine (c2 _).mono ?_); rintro e w2 ⟨rfl, rfl⟩))
  go_loopw [3, 5, 6] (fun v3 v5 v6 wr => ∃ (pos n : Nat) (acc : List Int) (x : ByteArray) (fb : Bool), v5 = .string x ∧ v6 = .bool fb ∧ SxI w t full v3 pos n acc x fb wr) (fun v3 v5 v6 wr => t.size - wr.iterPos (w.heap.size + 1))
  case atStart => exact ⟨0, s.size, [], ⟨#[]⟩, false, rfl, rfl, SxI.start w t full s.size HT2.out HF.out⟩
  case round =>
    obtain ⟨pos, n, acc, x, fb, rfl, rfl, hI⟩ := hrel
    have hit := hI.it
    by_cases hlt : pos < t.size
    · have hnx : ∀ ty, (Instr.next (.pointer (some ⟨w.heap.size + 1, 0, none⟩)) true ty).run Tryz.prog wr = .ok (.tuple #[.bool true, .int .i64 pos, .int .i32 ((Utf8.decode t pos).1 : Int)]) (wr.iterAt (w.heap.size + 1) t (pos + (Utf8.decode t pos).2)) := fun ty => Lib.run_next_any_at wr (w.heap.size + 1) t pos ty hit hlt
      have hdp := Slk.dec_pos t pos hlt
      have ow := hI.own.iter hit (pos + (Utf8.decode t pos).2)
      have bl : Below w.heap.size w (wr.iterAt (w.heap.size + 1) t (pos + (Utf8.decode t pos).2)) := Lib.below_iterAt hI.bel (by omega) t _
      have it0 := Lib.iterAt_heap wr (w.heap.size + 1) t pos (pos + (Utf8.decode t pos).2) hit
      have ce0 := (Lib.iterAt_other wr (w.heap.size + 1) w.heap.size t (pos + (Utf8.decode t pos).2) (by omega)).trans hI.cell
      have lo0 : w.heap.size + 2 ≤ (wr.iterAt (w.heap.size + 1) t (pos + (Utf8.decode t pos).2)).heap.size := by rw [Lib.iterAt_size]; exact hI.low
      have rr := Slk.reG_step hlt hI.fuel
      have mp : wr.iterPos (w.heap.size + 1) = pos := by simp only [World.iterPos, hit]
      have hst := hI.st
      have hfu := hI.fuel
      have dcs := dec_cases' t pos hlt
      have HLT := Aside0.mk hlt
      clear hI hit
      generalize hw0 : wr.iterAt (w.heap.size + 1) t (pos + (Utf8.decode t pos).2) = w0 at *
      clear hw0
      have LOW := Aside0.mk lo0
      have CE := Aside0.mk ce0
      have OW := Aside0.mk ow
      have BL := Aside0.mk bl
      have HM := Aside0.mk (show ∀ (w' : World) (q : Nat), w'.heap[w.heap.size + 1]? = some (.stringIter t q) → pos < q → t.size - w'.iterPos (w.heap.size + 1) < t.size - wr.iterPos (w.heap.size + 1) from fun w' q h h1 => by
        rw [mp]
        simp only [World.iterPos, h]
        omega)
      clear lo0 ce0 ow bl mp
      rcases hst with ⟨rfl, hxd, hfull, hxs, hal, hpl⟩ | ⟨rfl, hfull⟩
      · by_cases hd : dig (t[pos]'hlt) = true
        · obtain ⟨m, e1, e2⟩ := Slk.slG_dig hlt hfu hd acc x.toList
          have hc : 48 ≤ (t[pos]'hlt).toNat ∧ (t[pos]'hlt).toNat ≤ 57 := of_decide_eq_true hd
          rcases dcs with ⟨ha, he⟩ | ⟨ha, _, _⟩
          · rw [he] at hnx it0
            dsimp only at hnx it0
            generalize t[pos]'hlt = c at *
            have eo := Slk.enc_one c ha
            have rd := fun w' => runeDig_calls ((c.toNat : Nat) : Int) w'
            rw [show digI ((c.toNat : Nat) : Int) = true from decide_eq_true (by omega)] at rd
            have NX := Aside0.mk (show SxI w t full u3 (pos + 1) m acc (x ++ Utf8.encode ((c.toNat : Nat) : Int)) false w0 from ⟨BL.out, it0, CE.out, OW.out, e2, LOW.out, .inl ⟨rfl, by rw [append_toList, eo, bs_toList, List.all_append, hxd]; simp [hd], by rw [append_toList, eo, bs_toList, hfull, e1], by rw [eo, ByteArray.size_append, bs_size]; simp; omega, by omega, by omega⟩⟩)
            have IT := Aside0.mk it0
            have hsum : x.size + (Utf8.encode ((c.toNat : Nat) : Int)).size ≤ 9223372036854775807 := by have := Slk.enc_size ((c.toNat : Nat) : Int); have := HT.out; omega
            clear hfull e1 e2 hxd hxs rr hd eo hc ha he hal hpl hfu hlt it0 hdp
            go_wp2_with (go_at_call 85; (with_reducible refine (rd _).mono ?_); rintro e wd ⟨rfl, rfl⟩)
            refine ⟨⟨pos + 1, m, acc, _, false, rfl, rfl, NX.out⟩, HM.out _ _ IT.out (by omega)⟩
          · omega
        · replace hd : dig (t[pos]'hlt) = false := by simpa using hd
          have LIM := Aside0.mk (show (acc.length + 1) * 8 ≤ 140737488355328 by have := HT.out; omega)
          have hxl : x.size ≤ 40000 := by have := HT.out; omega
          by_cases h46 : t[pos]'hlt = 46
          · obtain ⟨m, e1, e2⟩ := Slk.slG_point hlt hfu h46 acc x.toList
            rw [h46] at dcs
            have he : Utf8.decode t pos = (46, 1) := by
              rcases dcs with ⟨_, he⟩ | ⟨ha, _, _⟩
              · exact he
              · exact absurd ha (by decide)
            rw [he] at hnx it0
            dsimp only at hnx it0
            have rd := fun w' => runeDig_calls (46 : Int) w'
            rw [show digI (46 : Int) = false from by decide] at rd
            have b46 : ((46 : Int) == 46) = true := by decide
            have IT := Aside0.mk it0
            cases hxe : x.toList.isEmpty with
            | true =>
              obtain rfl := sx_empty hxe
              have NX := Aside0.mk (show SxI w t full u3 (pos + 1) m acc ⟨#[]⟩ false w0 from ⟨BL.out, it0, CE.out, OW.out, e2, LOW.out, .inl ⟨rfl, by rw [sx_nil]; rfl, by rw [hfull, e1, sx_nil]; rfl, Nat.zero_le _, by omega, by omega⟩⟩)
              clear hfull e1 e2 hxd hxs rr hd he hal hpl hfu hlt it0 hdp h46 dcs hxl
              go_wp2_with (go_at_call 85; (with_reducible refine (rd _).mono ?_); rintro e wd ⟨rfl, rfl⟩)
              refine ⟨⟨pos + 1, m, acc, _, false, rfl, rfl, NX.out⟩, HM.out _ _ IT.out (by omega)⟩
            | false =>
              have hx0 : x.toList ≠ [] := fun e => by rw [e] at hxe; exact absurd hxe (by decide)
              have ss := set_some (new_calls x w0 hxl (HL.out.below BL.out)) (Slk.parse_dig x.toList hx0 hxd)
              have NX := Aside0.mk (show ∀ (v5 : Value) (w5 : World), Below (w.heap.size + 2) w0 w5 → BOwn w5 (w.heap.size + 2) v5 (acc ++ [(Num.dec x.toList : Int)]) → SxI w t full v5 (pos + 1) m (acc ++ [(Num.dec x.toList : Int)]) ⟨#[]⟩ false w5 from fun v5 w5 hb ho => ⟨BL.out.trans (hb.mono (by omega)), (SxI.keep it0 CE.out hb).1, (SxI.keep it0 CE.out hb).2, ho, e2, Nat.le_trans LOW.out hb.size, .inl ⟨rfl, by rw [sx_nil]; rfl, by rw [hfull, e1, sx_nil]; unfold Slk.fl; rw [if_neg hx0], Nat.zero_le _, by rw [List.length_append, List.length_singleton]; omega, by omega⟩⟩)
              have KP := Aside0.mk (show ∀ w5 : World, Below (w.heap.size + 2) w0 w5 → w5.heap[w.heap.size + 1]? = some (.stringIter t (pos + 1)) from fun w5 hb => (SxI.keep it0 CE.out hb).1)
              clear hfull e1 e2 hxd hxs rr hd he hal hpl hfu hlt it0 hdp h46 dcs hx0
              go_wp2_with (first | (go_at_call 85; (with_reducible refine (rd _).mono ?_); rintro e wd ⟨rfl, rfl⟩) | (go_at_call 86; (with_reducible refine ss.mono ?_); rintro e w3 ⟨rfl, q1, q2⟩; have B3 := (below_alloc (Below.refl w0.heap.size w0) (Obj.cells #[.bool false, .slice none 0 0] 117)).trans q1; have BL3 := Aside0.mk (B3.mono LOW.out); have BS3 := Aside0.mk (Nat.le_trans LOW.out B3.size); obtain ⟨qs, hq1, hq2⟩ := OW.out.below B3; have HQ1 := Aside0.mk hq1; have HQ2 := Aside0.mk hq2; have Q2 := Aside0.mk q2; have QL := Aside0.mk (show (qs.length + 1) * 8 ≤ 140737488355328 by rw [hq2.1]; exact LIM.out); clear q1 q2 B3 hq1 hq2) | ((with_reducible refine gate_builtin (b := .append) (xs := #[.tmp 43, .tmp 45]) rfl ?_); at_builtin; refine Kd.R_append ptrK (w0 := w0) (w.heap.size + 2) rfl (.tmp 43) (.tmp 45) 43 94 (.pointer none) 8 rfl Tryz.underlying43 sx_ptrInfo rfl (by decide) (by omega) u3 qs w0.heap.size [.pointer (some ⟨w0.heap.size, 0, none⟩)] (fun _ => True) (fun _ => False) rfl rfl ?aP (fun _ hk => hk.elim) ?aF ?aO ?aB ?aS ?aL ?_; (case aP => exact rfl); (case aF => exact (fun _ _ => trivial)); (case aO => exact HQ1.out); (case aB => exact BL3.out); (case aS => exact BS3.out); (case aL => exact QL.out); intro v5 w5 ho hb hg hat; have HO := Aside0.mk (BOwn.more HQ1.out HQ2.out Q2.out ho hg); have BL5 := Aside0.mk hb; clear ho hb hg hat))
              refine ⟨⟨pos + 1, m, _, _, false, rfl, rfl, NX.out _ _ BL5.out HO.out⟩, HM.out _ _ (KP.out _ BL5.out) (by omega)⟩
          · have e1 := Slk.slG_other hlt hfu hd h46 acc x.toList
            obtain ⟨m, r1, r2⟩ := rr
            have hr : digI ((Utf8.decode t pos).1 : Int) = false ∧ (((Utf8.decode t pos).1 : Int) == 46) = false := by
              rcases dcs with ⟨ha, he⟩ | ⟨_, hr, _⟩
              · rw [he]
                have hc : ¬ (48 ≤ (t[pos]'hlt).toNat ∧ (t[pos]'hlt).toNat ≤ 57) := of_decide_eq_false hd
                refine ⟨decide_eq_false (by show ¬ ((48 : Int) ≤ ((t[pos]'hlt).toNat : Int) ∧ ((t[pos]'hlt).toNat : Int) ≤ 57); omega), beq_eq_false_iff_ne.2 (fun e => h46 ?_)⟩
                have e : ((t[pos]'hlt).toNat : Int) = 46 := e
                exact UInt8.toNat_inj.1 (by show (t[pos]'hlt).toNat = 46; omega)
              · exact ⟨decide_eq_false (by omega), beq_eq_false_iff_ne.2 (by omega)⟩
            obtain ⟨hr, b46⟩ := hr
            have rd := fun w' => runeDig_calls ((Utf8.decode t pos).1 : Int) w'
            rw [hr] at rd
            generalize Utf8.decode t pos = dk at *
            obtain ⟨r, k⟩ := dk
            dsimp only at hnx it0 r1 r2 hdp b46 rd
            have IT := Aside0.mk it0
            cases hxe : x.toList.isEmpty with
            | true =>
              obtain rfl := sx_empty hxe
              have NX := Aside0.mk (show SxI w t full u3 (pos + k) m acc (Utf8.encode ((r : Nat) : Int)) true w0 from ⟨BL.out, it0, CE.out, OW.out, r2, LOW.out, .inr ⟨rfl, by rw [hfull, e1, r1, sx_nil]; rfl⟩⟩)
              clear hfull e1 r1 r2 hxd hxs hd hal hpl hfu hlt it0 h46 dcs hxl hr
              go_wp2_with (go_at_call 85; (with_reducible refine (rd _).mono ?_); rintro e wd ⟨rfl, rfl⟩)
              refine ⟨⟨pos + k, m, acc, _, true, rfl, rfl, NX.out⟩, HM.out _ _ IT.out (by omega)⟩
            | false =>
              have hx0 : x.toList ≠ [] := fun e => by rw [e] at hxe; exact absurd hxe (by decide)
              have ss := set_some (new_calls x w0 hxl (HL.out.below BL.out)) (Slk.parse_dig x.toList hx0 hxd)
              have NX := Aside0.mk (show ∀ (v5 : Value) (w5 : World), Below (w.heap.size + 2) w0 w5 → BOwn w5 (w.heap.size + 2) v5 (acc ++ [(Num.dec x.toList : Int)]) → SxI w t full v5 (pos + k) m (acc ++ [(Num.dec x.toList : Int)]) (Utf8.encode ((r : Nat) : Int)) true w5 from fun v5 w5 hb ho => ⟨BL.out.trans (hb.mono (by omega)), (SxI.keep it0 CE.out hb).1, (SxI.keep it0 CE.out hb).2, ho, r2, Nat.le_trans LOW.out hb.size, .inr ⟨rfl, by rw [hfull, e1, r1]; unfold Slk.fl; rw [if_neg hx0]⟩⟩)
              have KP := Aside0.mk (show ∀ w5 : World, Below (w.heap.size + 2) w0 w5 → w5.heap[w.heap.size + 1]? = some (.stringIter t (pos + k)) from fun w5 hb => (SxI.keep it0 CE.out hb).1)
              clear hfull e1 r1 r2 hxd hxs hd hal hpl hfu hlt it0 h46 dcs hx0 hr
              go_wp2_with (first | (go_at_call 85; (with_reducible refine (rd _).mono ?_); rintro e wd ⟨rfl, rfl⟩) | (go_at_call 86; (with_reducible refine ss.mono ?_); rintro e w3 ⟨rfl, q1, q2⟩; have B3 := (below_alloc (Below.refl w0.heap.size w0) (Obj.cells #[.bool false, .slice none 0 0] 117)).trans q1; have BL3 := Aside0.mk (B3.mono LOW.out); have BS3 := Aside0.mk (Nat.le_trans LOW.out B3.size); obtain ⟨qs, hq1, hq2⟩ := OW.out.below B3; have HQ1 := Aside0.mk hq1; have HQ2 := Aside0.mk hq2; have Q2 := Aside0.mk q2; have QL := Aside0.mk (show (qs.length + 1) * 8 ≤ 140737488355328 by rw [hq2.1]; exact LIM.out); clear q1 q2 B3 hq1 hq2) | ((with_reducible refine gate_builtin (b := .append) (xs := #[.tmp 43, .tmp 45]) rfl ?_); at_builtin; refine Kd.R_append ptrK (w0 := w0) (w.heap.size + 2) rfl (.tmp 43) (.tmp 45) 43 94 (.pointer none) 8 rfl Tryz.underlying43 sx_ptrInfo rfl (by decide) (by omega) u3 qs w0.heap.size [.pointer (some ⟨w0.heap.size, 0, none⟩)] (fun _ => True) (fun _ => False) rfl rfl ?aP (fun _ hk => hk.elim) ?aF ?aO ?aB ?aS ?aL ?_; (case aP => exact rfl); (case aF => exact (fun _ _ => trivial)); (case aO => exact HQ1.out); (case aB => exact BL3.out); (case aS => exact BS3.out); (case aL => exact QL.out); intro v5 w5 ho hb hg hat; have HO := Aside0.mk (BOwn.more HQ1.out HQ2.out Q2.out ho hg); have BL5 := Aside0.mk hb; clear ho hb hg hat))
              refine ⟨⟨pos + k, m, _, _, true, rfl, rfl, NX.out _ _ BL5.out HO.out⟩, HM.out _ _ (KP.out _ BL5.out) (by omega)⟩
      · obtain ⟨m, r1, r2⟩ := rr
        generalize Utf8.decode t pos = dk at *
        obtain ⟨r, k⟩ := dk
        dsimp only at hnx it0 r1 r2 hdp
        have NX := Aside0.mk (show SxI w t full u3 (pos + k) m acc (x ++ Utf8.encode ((r : Nat) : Int)) true w0 from ⟨BL.out, it0, CE.out, OW.out, r2, LOW.out, .inr ⟨rfl, by rw [hfull, r1, append_toList, List.append_assoc]⟩⟩)
        have IT := Aside0.mk it0
        have hsum : x.size + (Utf8.encode ((r : Nat) : Int)).size ≤ 9223372036854775807 := by
          have := TB.out
          rw [hfull, r1] at this
          simp only [List.length_append, len_toList] at this
          omega
        clear hfull r1 r2 hfu hlt it0 dcs
        go_wp2_with fail
        refine ⟨⟨pos + k, m, acc, _, true, rfl, rfl, NX.out⟩, HM.out _ _ IT.out (by omega)⟩
    · have hnx : ∀ ty, (Instr.next (.pointer (some ⟨w.heap.size + 1, 0, none⟩)) true ty).run Tryz.prog wr = _ := fun ty => Lib.run_next_end_at wr (w.heap.size + 1) t pos ty hit hlt
      have hst := hI.st
      obtain ⟨A3, c3, rfl, _, _⟩ := hI.own.slice
      have LOW := Aside0.mk hI.low
      have CE := Aside0.mk hI.cell
      have OW := Aside0.mk hI.own
      have BL := Aside0.mk hI.bel
      have IT := Aside0.mk hit
      clear hI hit
      rcases hst with ⟨rfl, hxd, hfull, hxs, hal, hpl⟩ | ⟨rfl, hfull⟩
      · rw [Slk.slG_end hlt] at hfull
        have LIM := Aside0.mk (show (acc.length + 1) * 8 ≤ 140737488355328 by have := HT.out; omega)
        have hxl : x.size ≤ 40000 := by have := HT.out; omega
        cases hxe : x.toList.isEmpty with
        | true =>
          obtain rfl := sx_empty hxe
          have p0 := blk_cell CE.out 0
          have p1 := blk_cell CE.out 1
          have p2 := blk_cell CE.out 2
          have p3 := blk_cell CE.out 3
          have f0 := Lib.frozen_of_heap CE.out 0
          have f1 := Lib.frozen_of_heap CE.out 1
          have f2 := Lib.frozen_of_heap CE.out 2
          have f3 := Lib.frozen_of_heap CE.out 3
          have HE := Aside0.mk (show full = (acc, []) from by rw [hfull, sx_nil]; rfl)
          clear hfull hxd hxs hal hpl hlt hxl
          go_wp2_with fail
          have M3 := Aside0.mk (sx_put4 CE.out (.bool lv) (.slice A3 acc.length c3) (.string ⟨#[]⟩) (.string s))
          refine bodyPost_ret (results_cell_row rfl _ _ w.heap.size 46 #[.bool lv, .slice A3 acc.length c3, .string ⟨#[]⟩, .string s] (0, 0) _ rfl M3.out Tryz.underlying46 rfl (by kernel_rfl)) rfl ?_
          exact ⟨.slice A3 acc.length c3, by rw [HE.out]; rfl, by rw [HE.out]; exact (BOwn.sx4 (OW.out.lower (by omega)) CE.out (by decide) (by decide) _ _ _ _), below_set (below_set (below_set (below_set BL.out (Nat.le_refl _)) (Nat.le_refl _)) (Nat.le_refl _)) (Nat.le_refl _)⟩
        | false =>
          have hx0 : x.toList ≠ [] := fun e => by rw [e] at hxe; exact absurd hxe (by decide)
          generalize wr = w0 at *
          have ss := set_some (new_calls x w0 hxl (HL.out.below BL.out)) (Slk.parse_dig x.toList hx0 hxd)
          have HE := Aside0.mk (show full = (acc ++ [(Num.dec x.toList : Int)], []) from by rw [hfull]; unfold Slk.fl; rw [if_neg hx0])
          clear hfull hxd hxs hal hpl hlt hx0
          go_wp2_with (first | (go_at_call 86; (with_reducible refine ss.mono ?_); rintro e w3 ⟨rfl, q1, q2⟩; have B3 := (below_alloc (Below.refl w0.heap.size w0) (Obj.cells #[.bool false, .slice none 0 0] 117)).trans q1; have BL3 := Aside0.mk (B3.mono LOW.out); have BS3 := Aside0.mk (Nat.le_trans LOW.out B3.size); obtain ⟨qs, hq1, hq2⟩ := OW.out.below B3; have HQ1 := Aside0.mk hq1; have HQ2 := Aside0.mk hq2; have Q2 := Aside0.mk q2; have QL := Aside0.mk (show (qs.length + 1) * 8 ≤ 140737488355328 by rw [hq2.1]; exact LIM.out); clear q1 q2 B3 hq1 hq2) | (((with_reducible refine gate_builtin (b := .append) (xs := #[.tmp 63, .tmp 65]) rfl ?_); at_builtin; refine Kd.R_append ptrK (w0 := w0) (w.heap.size + 2) rfl (.tmp 63) (.tmp 65) 43 94 (.pointer none) 8 rfl Tryz.underlying43 sx_ptrInfo rfl (by decide) (by omega) (.slice A3 acc.length c3) qs w0.heap.size [.pointer (some ⟨w0.heap.size, 0, none⟩)] (fun _ => True) (fun _ => False) rfl rfl ?aP (fun _ hk => hk.elim) ?aF ?aO ?aB ?aS ?aL ?_; (case aP => exact rfl); (case aF => exact (fun _ _ => trivial)); (case aO => exact HQ1.out); (case aB => exact BL3.out); (case aS => exact BS3.out); (case aL => exact QL.out); intro v5 w5 ho hb hg hat; have HO := Aside0.mk (BOwn.more HQ1.out HQ2.out Q2.out ho hg); have BL5 := Aside0.mk hb; clear ho hb hg hat); obtain ⟨A5, c5, e5, _, _⟩ := HO.out.slice; generalize hn5 : (acc ++ [(Num.dec x.toList : Int)]).length = n5 at e5; subst e5; clear hn5; have C5 := Aside0.mk ((BL5.out.block _ (by omega)).trans CE.out); have p0 := blk_cell C5.out 0; have p1 := blk_cell C5.out 1; have p2 := blk_cell C5.out 2; have p3 := blk_cell C5.out 3; have f0 := Lib.frozen_of_heap C5.out 0; have f1 := Lib.frozen_of_heap C5.out 1; have f2 := Lib.frozen_of_heap C5.out 2; have f3 := Lib.frozen_of_heap C5.out 3))
          have M3 := Aside0.mk (sx_put4 C5.out (.bool lv) (.slice A5 n5 c5) (.string ⟨#[]⟩) (.string s))
          refine bodyPost_ret (results_cell_row rfl _ _ w.heap.size 46 #[.bool lv, .slice A5 n5 c5, .string ⟨#[]⟩, .string s] (0, 0) _ rfl M3.out Tryz.underlying46 rfl (by kernel_rfl)) rfl ?_
          have b5 := BL.out.trans (BL5.out.mono (by omega))
          exact ⟨.slice A5 n5 c5, by rw [HE.out]; rfl, by rw [HE.out]; exact (BOwn.sx4 (HO.out.lower (by omega)) C5.out (by decide) (by decide) _ _ _ _), below_set (below_set (below_set (below_set b5 (Nat.le_refl _)) (Nat.le_refl _)) (Nat.le_refl _)) (Nat.le_refl _)⟩
      · rw [Slk.reG_end hlt, List.append_nil] at hfull
        have p0 := blk_cell CE.out 0
        have p1 := blk_cell CE.out 1
        have p2 := blk_cell CE.out 2
        have p3 := blk_cell CE.out 3
        have f0 := Lib.frozen_of_heap CE.out 0
        have f1 := Lib.frozen_of_heap CE.out 1
        have f2 := Lib.frozen_of_heap CE.out 2
        have f3 := Lib.frozen_of_heap CE.out 3
        have HE := Aside0.mk (show full = (acc, x.toList) from hfull)
        clear hfull hlt
        go_wp2_with fail
        have M3 := Aside0.mk (sx_put4 CE.out (.bool lv) (.slice A3 acc.length c3) (.string x) (.string s))
        refine bodyPost_ret (results_cell_row rfl _ _ w.heap.size 46 #[.bool lv, .slice A3 acc.length c3, .string x, .string s] (0, 0) _ rfl M3.out Tryz.underlying46 rfl (by kernel_rfl)) rfl ?_
        exact ⟨.slice A3 acc.length c3, by rw [HE.out, ← bs_of], by rw [HE.out]; exact (BOwn.sx4 (OW.out.lower (by omega)) CE.out (by decide) (by decide) _ _ _ _), below_set (below_set (below_set (below_set BL.out (Nat.le_refl _)) (Nat.le_refl _)) (Nat.le_refl _)) (Nat.le_refl _)⟩
end Go.Proofs.YtdliagehkiihpaaGreatDoor.Giv
