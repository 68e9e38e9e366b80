/- Runs of digits and of other characters: what is cut at points behind canon. Zeros at the ends of parts. Plain Lean, no program. -/
import Derived.Test.YtfgechefinijbaaDoorZK
namespace Go.Proofs.YtfgechefinijbaaDoor.Canon
open Go.Proofs.YtfgechefinijbaaDoor.Ord Go.Proofs.YtfgechefinijbaaDoor.Rpm Go.Proofs.YtfgechefinijbaaDoor.Giv
set_option linter.unusedVariables false

def same (c x : UInt8) : Bool := !(x == 46) && (dig x == dig c)
def runs : Nat → List UInt8 → List (List UInt8)
  | 0, _ => []
  | _ + 1, [] => []
  | n + 1, c :: t => if c = 46 then runs n t else (c :: t.takeWhile (same c)) :: runs n (t.dropWhile (same c))
theorem runs_nil : ∀ n, runs n [] = []
  | 0 => rfl
  | _ + 1 => rfl
def after (b : Bool) : List UInt8 → List UInt8
  | [] => []
  | x :: r => if x = 46 then 46 :: canon false b r else 46 :: x :: canon true (dig x) r
theorem canon_run (c : UInt8) : ∀ t : List UInt8, canon true (dig c) t = t.takeWhile (same c) ++ after (dig c) (t.dropWhile (same c))
  | [] => rfl
  | x :: r => by
    by_cases h46 : x = 46
    · have hs : same c x = false := by unfold same; rw [h46]; rfl
      rw [List.takeWhile_cons_of_neg (by simp [hs]), List.dropWhile_cons_of_neg (by simp [hs]), canon, if_pos h46, List.nil_append, after, if_pos h46]
    · have hb : (x == 46) = false := by simpa using h46
      by_cases hd : dig x = dig c
      · have hs : same c x = true := by unfold same; rw [hb, hd]; simp
        rw [List.takeWhile_cons_of_pos hs, List.dropWhile_cons_of_pos hs, canon, if_neg h46, hd, canon_run c r]
        simp
      · have hs : same c x = false := by unfold same; rw [hb]; simpa using hd
        have hn : (dig c != dig x) = true := by simpa using fun e => hd e.symm
        rw [List.takeWhile_cons_of_neg (by simp [hs]), List.dropWhile_cons_of_neg (by simp [hs]), canon, if_neg h46, hn, List.nil_append, after, if_neg h46]
        rfl
theorem tw_no46 (c : UInt8) (hc : c ≠ 46) (t : List UInt8) : ((c :: t.takeWhile (same c)).any (fun x => x == (46 : UInt8))) = false := by
  rw [List.any_eq_false]
  intro x hx
  rcases List.mem_cons.1 hx with h | h
  · rw [h]; simpa using hc
  · have := List.all_eq_true.1 (List.all_takeWhile (p := same c) (l := t)) x h
    unfold same at this
    rw [Bool.and_eq_true] at this
    simpa using this.1
theorem cut_pre (a : List UInt8) (h : (a.any (fun x => x == (46 : UInt8))) = false) (l : List UInt8) : ∀ p ps, Cut.cutAt 46 l = p :: ps → Cut.cutAt 46 (a ++ l) = (a ++ p) :: ps := by
  induction a with
  | nil => intro p ps e; exact e
  | cons x a ih =>
    intro p ps e
    rw [List.any_cons, Bool.or_eq_false_iff] at h
    have hx : ¬ x = 46 := by simpa using h.1
    have e2 := ih h.2 p ps e
    rw [List.cons_append]
    conv => lhs; unfold Cut.cutAt
    rw [if_neg hx, e2]
    rfl
theorem cut_head (x : UInt8) (hx : x ≠ 46) (r : List UInt8) : ∃ p ps, Cut.cutAt 46 (x :: r) = (x :: p) :: ps := by
  unfold Cut.cutAt
  rw [if_neg hx]
  split
  · next h t _ => exact ⟨h, t, rfl⟩
  · exact ⟨[], [], rfl⟩
/-- No piece is empty. -/
def full (l : List UInt8) : Prop := ∀ p ∈ Cut.cutAt 46 l, p ≠ []
theorem canon_runs : ∀ (n : Nat) (l : List UInt8), l.length ≤ n → full l → Cut.cutAt 46 (canon false true l) = runs n l
  | n, [], _, hf => absurd rfl (hf [] (by unfold Cut.cutAt; simp))
  | 0, c :: t, h, _ => absurd h (by simp)
  | n + 1, c :: t, h, hf => by
    have hc : c ≠ 46 := by
      intro e
      refine hf [] ?_ rfl
      unfold Cut.cutAt
      rw [if_pos e]
      exact List.mem_cons_self
    have hno := tw_no46 c hc t
    have hsplit : t = t.takeWhile (same c) ++ t.dropWhile (same c) := (List.takeWhile_append_dropWhile).symm
    have hlen : (t.dropWhile (same c)).length ≤ n := by
      have := List.Sublist.length_le (List.dropWhile_sublist (same c) (l := t))
      rw [List.length_cons] at h
      omega
    rw [canon, if_neg hc, runs, if_neg hc]
    simp only [Bool.false_and, Bool.false_eq_true, if_false, List.nil_append]
    rw [canon_run c t]
    have hl : Cut.cutAt 46 (c :: t) = Cut.cutAt 46 ((c :: t.takeWhile (same c)) ++ t.dropWhile (same c)) := by
      rw [List.cons_append, ← hsplit]
    unfold full at hf
    rw [hl] at hf
    generalize ht : t.dropWhile (same c) = d at *
    cases d with
    | nil =>
      rw [after, List.append_nil, runs_nil]
      exact (Cut.cutAt_no 46 _ hno).1
    | cons x r =>
      by_cases hx : x = 46
      · rw [after, if_pos hx, ← List.cons_append, cut_app 46 _ _ hno]
        rw [hx, cut_app 46 _ _ hno] at hf
        have hr : full r := fun p hp => hf p (List.mem_cons_of_mem _ hp)
        rw [List.length_cons] at hlen
        cases n with
        | zero => omega
        | succ m =>
          have ih := canon_runs m r (by omega) hr
          rw [runs, if_pos hx, ← ih]
          congr 2
          cases r with
          | nil => rfl
          | cons y q =>
            rw [canon, canon]
            by_cases hy : y = 46
            · exfalso
              refine hr [] ?_ rfl
              unfold Cut.cutAt
              rw [if_pos hy]
              exact List.mem_cons_self
            · rw [if_neg hy, if_neg hy]
              rfl
      · rw [after, if_neg hx, ← List.cons_append, cut_app 46 _ _ hno]
        have hr : full (x :: r) := by
          obtain ⟨p, ps, e⟩ := cut_head x hx r
          rw [cut_pre _ hno _ _ _ e] at hf
          intro q hq
          rw [e] at hq
          rcases List.mem_cons.1 hq with h | h
          · rw [h]; simp
          · exact hf q (List.mem_cons_of_mem _ h)
        have ih := canon_runs n (x :: r) hlen hr
        rw [← ih]
        congr 2
        rw [canon, if_neg hx]
        rfl
end Go.Proofs.YtfgechefinijbaaDoor.Canon
namespace Go.Proofs.YtfgechefinijbaaDoor.Giv
open Go.Proofs.YtfgechefinijbaaDoor.Pk
set_option linter.unusedVariables false
theorem cutZ_cut (l m : List ByteArray) : ∀ n, (∀ i, i < n → l.getD i ⟨#[]⟩ = m.getD i ⟨#[]⟩) → cutZ l n = cutZ m n
  | 0, _ => rfl
  | n + 1, h => by
    rw [cutZ, cutZ, h n (by omega), cutZ_cut l m n (fun i hi => h i (by omega))]
theorem getD_take (l : List ByteArray) (k i : Nat) (h : i < k) : (l.take k).getD i ⟨#[]⟩ = l.getD i ⟨#[]⟩ := by
  rw [List.getD_eq_getElem?_getD, List.getD_eq_getElem?_getD, List.getElem?_take, if_pos h]
theorem cutZ_take (l : List ByteArray) (k n : Nat) (h : n ≤ k) : cutZ (l.take k) n = cutZ l n := cutZ_cut _ _ n (fun i hi => getD_take l k i (by omega))
theorem cutZ_idem (l : List ByteArray) : ∀ n, cutZ l (cutZ l n) = cutZ l n
  | 0 => rfl
  | n + 1 => by
    by_cases h : (l.getD n ⟨#[]⟩).toList = [48]
    · have e : cutZ l (n + 1) = cutZ l n := by rw [cutZ, if_pos h]
      rw [e]
      exact cutZ_idem l n
    · have e : cutZ l (n + 1) = n + 1 := by rw [cutZ, if_neg h]
      rw [e, e]
theorem trimZ_idem (l : List ByteArray) : trimZ (trimZ l) = trimZ l := by
  unfold trimZ
  have h := cutZ_le l l.length
  have e : (l.take (cutZ l l.length)).length = cutZ l l.length := by rw [List.length_take]; omega
  rw [e, cutZ_take l _ _ (Nat.le_refl _), cutZ_idem, List.take_take, Nat.min_self]
theorem cutZ_app (a d : List ByteArray) : ∀ n, cutZ (a ++ d) (a.length + n) = if cutZ d n = 0 then cutZ a a.length else a.length + cutZ d n
  | 0 => by
    rw [Nat.add_zero, show cutZ d 0 = 0 from rfl, if_pos rfl]
    refine cutZ_cut _ _ _ (fun i hi => ?_)
    rw [List.getD_eq_getElem?_getD, List.getD_eq_getElem?_getD, List.getElem?_append_left hi]
  | n + 1 => by
    have g : (a ++ d).getD (a.length + n) ⟨#[]⟩ = d.getD n ⟨#[]⟩ := by
      rw [List.getD_eq_getElem?_getD, List.getD_eq_getElem?_getD, List.getElem?_append_right (by omega)]
      congr 2
      omega
    rw [← Nat.add_assoc, cutZ, g, cutZ_app a d n]
    conv => rhs; rw [cutZ]
    by_cases h : (d.getD n ⟨#[]⟩).toList = [48]
    · rw [if_pos h, if_pos h]
    · rw [if_neg h, if_neg h, if_neg (by omega)]
      omega
theorem cutZ_pos (d : List ByteArray) (h : ¬ (d.getD 0 ⟨#[]⟩).toList = [48]) : ∀ n, 0 < n → cutZ d n ≠ 0
  | 0, h0 => absurd h0 (by omega)
  | 1, _ => by
    rw [cutZ, if_neg h]
    omega
  | n + 2, _ => by
    rw [cutZ]
    split
    · exact cutZ_pos d h (n + 1) (by omega)
    · omega
/-- Zeros dropped at the numbers' end, then at the end of all. -/
theorem trim_two (l : List ByteArray) (p : ByteArray → Bool) (hp : p ⟨#[48]⟩ = true) : trimZ (trimZ (l.takeWhile p) ++ l.dropWhile p) = trimZ (l.takeWhile p) ++ trimZ (l.dropWhile p) := by
  generalize hd : l.dropWhile p = d
  cases d with
  | nil =>
    rw [List.append_nil, trimZ_idem]
    simp [trimZ, cutZ]
  | cons x r =>
    have hx : p x = false := by
      have := List.head?_dropWhile_not p l
      rw [hd] at this
      simpa using this
    have hn : ¬ ((x :: r).getD 0 ⟨#[]⟩).toList = [48] := by
      intro e
      have e' : x = ⟨#[48]⟩ := bs_eq (show x.toList = [48] from e)
      rw [e', hp] at hx
      exact absurd hx (by simp)
    generalize ha : trimZ (l.takeWhile p) = a
    have key := cutZ_app a (x :: r) (x :: r).length
    rw [if_neg (cutZ_pos _ hn _ (by simp))] at key
    unfold trimZ
    rw [List.length_append, key, List.take_length_add_append]
end Go.Proofs.YtfgechefinijbaaDoor.Giv
