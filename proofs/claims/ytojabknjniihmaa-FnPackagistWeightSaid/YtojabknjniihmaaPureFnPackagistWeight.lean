/- The statement FnPackagistWeight: the weight that the program gives a component that is no number is told by what the text begins with, for every text.
   No condition beyond those that the statement itself states. -/
import Derived.Test.YtojabknjniihmaaQPx4
namespace Go.Proofs.Ytojabknjniihmaa.Pure
open Go.RowKit Go.Proofs.Ytojabknjniihmaa.QP Go.Proofs.YtojabknjniihmaaW.PrintWords Go.Proofs.YtojabknjniihmaaW.PrintLast

namespace PackagistWeight

theorem ev_pos {α : Type} {c : Prop} [Decidable c] {f g : Nat → Option α} {r : α} (h : c) (e : Ev f r) : Ev (fun k => if c then f k else g k) r := by
  simpa [h] using e
theorem ev_neg {α : Type} {c : Prop} [Decidable c] {f g : Nat → Option α} {r : α} (h : ¬ c) (e : Ev g r) : Ev (fun k => if c then f k else g k) r := by
  simpa [h] using e

/-- It comes to an end with some answer. -/
def Tm {α : Type} (g : Nat → Option α) : Prop := ∃ r, Ev g r
theorem Tm.now {α : Type} (r : α) : Tm (fun _ => some r) := ⟨r, Ev.now r⟩
theorem Tm.ite {α : Type} {c : Prop} [Decidable c] {f g : Nat → Option α} (h : c → Tm f) (h' : ¬ c → Tm g) : Tm (fun k => if c then f k else g k) := by
  by_cases hc : c
  · obtain ⟨r, e⟩ := h hc
    exact ⟨r, ev_pos hc e⟩
  · obtain ⟨r, e⟩ := h' hc
    exact ⟨r, ev_neg hc e⟩
theorem Tm.bind {α β : Type} {g : Nat → Option α} {f : Nat → α → Option β} (h : Tm g) (k : ∀ a, Tm (fun n => f n a)) : Tm (fun n => (g n).bind (f n)) := by
  obtain ⟨a, e⟩ := h
  obtain ⟨r, e'⟩ := k a
  exact ⟨r, e.bind e'⟩
theorem Tm.step {α : Type} {g f : Nat → Option α} (h : ∀ k, g (k + 1) = f k) (k : Tm f) : Tm g := by
  obtain ⟨r, e⟩ := k
  exact ⟨r, Ev.step h e⟩
theorem Tm.no {α : Type} {c : Prop} {g : Nat → Option α} (h : c) (h' : ¬ c) : Tm g := absurd h h'

theorem digits (s : ByteArray) (hs : s.size ≤ 140737488351232) (d : Nat) : ∀ i : Int, 0 ≤ i → (s.size : Int) - i = d → Tm (fun k => spec_allDigits.l0 k s i) := by
  induction d with
  | zero =>
    intro i h0 hd
    refine Tm.step (fun k => by rw [spec_allDigits.l0]) ?_
    exact Tm.ite (fun h => by omega) (fun _ => Tm.now _)
  | succ d ih =>
    intro i h0 hd
    have e : wrap64 (i + 1) = i + 1 := by unfold wrap64; omega
    refine Tm.step (fun k => by rw [spec_allDigits.l0, e]) ?_
    refine Tm.ite (fun _ => Tm.ite (fun _ => Tm.bind ?_ fun b => Tm.ite (fun _ => ih _ (by omega) (by omega)) fun _ => Tm.now _) fun h => absurd h0 h) fun h => by omega
    unfold spec_isDigit.f
    exact Tm.ite (fun _ => Tm.now _) fun _ => Tm.now _
theorem digits_f (s : ByteArray) (hs : s.size ≤ 140737488351232) : Tm (fun k => spec_allDigits.f k s) := digits s hs s.size 0 (by omega) (by omega)

theorem known (s : ByteArray) (hs : s.size ≤ 140737488351232) : Tm (fun k => spec_PackagistKnown.f k [s]) := by
  have last : Tm (fun k => spec_PackagistKnown.l0 k [s] 1) := by
    refine Tm.step (fun k => by rw [spec_PackagistKnown.l0]) ?_
    exact Tm.ite (fun h => by simp at h) fun _ => Tm.now _
  have hx : (s.extract 1 s.size).size ≤ 140737488351232 := by rw [ByteArray.size_extract]; omega
  have e : wrap64 (0 + 1) = 1 := by unfold wrap64; omega
  refine Tm.step (fun k => by rw [spec_PackagistKnown.f, spec_PackagistKnown.l0, e]) ?_
  have r : rdOf ByteArray.empty [s] 0 = s := rfl
  rw [r]
  have tail : ∀ n : Nat → Option Bool, Tm (fun k => if (s.size : Int) > 1 then (if 0 < (s.size : Int) then (if (bt s 0) = 45 then (if 1 ≤ (s.size : Int) then ((spec_allDigits.f k (s.extract 1 s.size)).bind fun t107 => (if t107 = true then (some false) else (spec_PackagistKnown.l0 k [s] 1))) else (n k)) else (if (bt s 0) = 43 then (if 1 ≤ (s.size : Int) then ((spec_allDigits.f k (s.extract 1 s.size)).bind fun t108 => (if t108 = true then (some false) else (spec_PackagistKnown.l0 k [s] 1))) else (n k)) else (spec_PackagistKnown.l0 k [s] 1))) else (n k)) else (spec_PackagistKnown.l0 k [s] 1)) := by
    intro n
    have w : ∀ t : Bool, Tm (fun k => if t = true then some false else spec_PackagistKnown.l0 k [s] 1) := fun t => Tm.ite (fun _ => Tm.now _) fun _ => last
    refine Tm.ite (fun h1 => Tm.ite (fun h2 => Tm.ite (fun _ => Tm.ite (fun _ => Tm.bind (digits_f _ hx) w) fun h => by omega) fun _ => Tm.ite (fun _ => Tm.ite (fun _ => Tm.bind (digits_f _ hx) w) fun h => by omega) fun _ => last) fun h => by omega) fun _ => last
  refine Tm.ite (fun _ => Tm.ite (fun _ => Tm.bind (digits_f s hs) fun b => Tm.ite (fun _ => Tm.ite (fun _ => Tm.now _) fun _ => tail _) fun _ => tail _) fun h => absurd (Int.le_refl 0) h) fun _ => Tm.now _

theorem short_tm (a : ByteArray) : Tm (fun k => laws_short.f k [a]) := by
  have e : wrap64 (0 + 1) = 1 := by unfold wrap64; omega
  have r : rdOf ByteArray.empty [a] 0 = a := rfl
  refine Tm.step (fun k => by rw [laws_short.f, laws_short.l0, e, r]) ?_
  refine Tm.ite (fun _ => Tm.ite (fun _ => Tm.ite (fun _ => Tm.ite (fun _ => Tm.now _) fun _ => ?_) fun h => by simp at h) fun h => by simp at h) fun h => by simp at h
  refine Tm.step (fun k => by rw [laws_short.l0]) ?_
  exact Tm.ite (fun h => by simp at h) fun _ => Tm.now _

theorem packagist_tm (a : ByteArray) (hs : a.size ≤ 140737488351232) : Tm (fun k => laws_packagist.f k [[a]]) := by
  have e : wrap64 (0 + 1) = 1 := by unfold wrap64; omega
  have r : rd_L1 [[a]] 0 = [a] := rfl
  refine Tm.step (fun k => by rw [laws_packagist.f, laws_packagist.l0, e, r]) ?_
  refine Tm.ite (fun _ => Tm.ite (fun _ => Tm.ite (fun _ => Tm.bind (short_tm a) fun b => Tm.ite (fun _ => Tm.bind (known a hs) fun c => Tm.ite (fun _ => ?_) fun _ => Tm.now _) fun _ => Tm.now _) fun h => by simp at h) fun h => by simp at h) fun h => by simp at h
  refine Tm.step (fun k => by rw [laws_packagist.l0]) ?_
  exact Tm.ite (fun h => by simp at h) fun _ => Tm.now _

/-- Does a text begin so? -/
def pre (a w : ByteArray) : Bool := decide (w.size ≤ a.size) && ((a.extract 0 w.size).toList == w.toList)

theorem has_pre (a w : ByteArray) : strings_HasPrefix.f a w = some (pre a w) := by
  unfold strings_HasPrefix.f stringslite_HasPrefix.f pre
  by_cases h : w.size ≤ a.size
  · have h' : (a.size : Int) ≥ (w.size : Int) := by omega
    rw [if_pos h', if_pos (by omega), if_pos (by omega)]
    simp [h]
  · have h' : ¬ ((a.size : Int) ≥ (w.size : Int)) := by omega
    rw [if_neg h']
    simp [h]

/-- What the program comes to, from place i of the list on. -/
def at_ (a : ByteArray) : List ByteArray → Int → Int
  | [], _ => 0
  | w :: ws, i => if pre a w then i else at_ a ws (i + 1)

theorem prog_loop (a : ByteArray) (ws : List ByteArray) (hw : ws.length < 1000) (d : Nat) : ∀ i : Nat, i + d = ws.length → Ev (fun k => semantic_weighPackagistBuildCharacter.l0 k a ws (ws.length : Int) (i : Int)) (at_ a (ws.drop i) i) := by
  induction d with
  | zero =>
    intro i hd
    refine Ev.step (fun k => by rw [semantic_weighPackagistBuildCharacter.l0]) ?_
    refine ev_neg (by omega) ?_
    rw [List.drop_of_length_le (by omega)]
    exact Ev.now _
  | succ d ih =>
    intro i hd
    have e : wrap64 ((i : Int) + 1) = ((i + 1 : Nat) : Int) := by unfold wrap64; omega
    have hi : i < ws.length := by omega
    have hr : rdOf ByteArray.empty ws (i : Int) = ws[i] := by simp [rdOf, List.getD_eq_getElem?_getD, List.getElem?_eq_getElem hi]
    refine Ev.step (fun k => by rw [semantic_weighPackagistBuildCharacter.l0, e, hr, has_pre, Option.bind_some]) ?_
    refine ev_pos (by omega) (ev_pos (by omega) (ev_pos (by omega) ?_))
    rw [List.drop_eq_getElem_cons hi, at_]
    by_cases hp : pre a ws[i] = true
    · rw [if_pos hp]
      exact ev_pos hp (Ev.now _)
    · rw [if_neg hp]
      refine ev_neg hp ?_
      have := ih (i + 1) (by omega)
      simpa using this

/-- What the reference comes to, from place i of the lists on. -/
def by_ (a : ByteArray) : List ByteArray → List Int → Int
  | w :: ws, n :: ns => if pre a w then n else by_ a ws ns
  | _, _ => 0

theorem spec_loop (a : ByteArray) (ws : List ByteArray) (ns : List Int) (hw : ws.length < 1000) (hl : ns.length = ws.length) (d : Nat) : ∀ i : Nat, i + d = ws.length → Ev (fun k => spec_packWeight.l0 k a ws ns (i : Int)) (by_ a (ws.drop i) (ns.drop i)) := by
  induction d with
  | zero =>
    intro i hd
    refine Ev.step (fun k => by rw [spec_packWeight.l0]) ?_
    refine ev_neg (by omega) ?_
    rw [List.drop_of_length_le (by omega)]
    exact Ev.now _
  | succ d ih =>
    intro i hd
    have e : wrap64 ((i : Int) + 1) = ((i + 1 : Nat) : Int) := by unfold wrap64; omega
    have hi : i < ws.length := by omega
    have hi' : i < ns.length := by omega
    have hr : rdOf ByteArray.empty ws (i : Int) = ws[i] := by simp [rdOf, List.getD_eq_getElem?_getD, List.getElem?_eq_getElem hi]
    have hn : rd ns (i : Int) = ns[i] := by simp [rd, List.getD_eq_getElem?_getD, List.getElem?_eq_getElem hi']
    refine Ev.step (fun k => by rw [spec_packWeight.l0, e, hr, hn]) ?_
    refine ev_pos (by omega) (ev_pos (by omega) ?_)
    rw [List.drop_eq_getElem_cons hi, List.drop_eq_getElem_cons hi', by_]
    have go : Ev (fun k => spec_packWeight.l0 k a ws ns ((i + 1 : Nat) : Int)) (by_ a (ws.drop (i + 1)) (ns.drop (i + 1))) := ih (i + 1) (by omega)
    by_cases hp : pre a ws[i] = true
    · rw [if_pos hp]
      have hq := hp
      simp only [pre, Bool.and_eq_true, decide_eq_true_eq, beq_iff_eq] at hq
      exact ev_pos (by omega) (ev_pos (by omega) (ev_pos (by omega) (ev_pos (by simpa using hq.2) (ev_pos (by omega) (Ev.now _)))))
    · rw [if_neg hp]
      by_cases hz : ws[i].size ≤ a.size
      · have hq : ¬ (a.extract 0 ws[i].size).toList = ws[i].toList := fun h => hp (by simp [pre, hz, h])
        exact ev_pos (by omega) (ev_pos (by omega) (ev_pos (by omega) (ev_neg (by simpa using hq) go)))
      · exact ev_neg (by omega) go

end PackagistWeight
open PackagistWeight in
theorem FnPackagistWeight : laws_FnPackagistWeight.Pure := by
  intro a ha
  suffices h : Ev (fun k => laws_FnPackagistWeight.f k a) true from h.rounds
  unfold laws_FnPackagistWeight.f
  by_cases hz : (a.size : Int) > 2147483647
  · exact ev_pos hz (Ev.now _)
  · refine ev_neg hz ?_
    obtain ⟨b, hb⟩ := short_tm a
    refine hb.bind ?_
    cases b with
    | false => exact Ev.now _
    | true =>
      refine ev_pos rfl ?_
      obtain ⟨c, hc⟩ := packagist_tm a ha
      refine hc.bind ?_
      cases c with
      | false => exact Ev.now _
      | true =>
        refine ev_pos rfl ?_
        have R := spec_loop a [(⟨#[82, 67]⟩ : ByteArray), (⟨#[100, 101, 118]⟩ : ByteArray), (⟨#[97]⟩ : ByteArray), (⟨#[98]⟩ : ByteArray), (⟨#[114, 99]⟩ : ByteArray), (⟨#[35]⟩ : ByteArray), (⟨#[112]⟩ : ByteArray)] [3, 0, 1, 2, 3, 4, 5] (by decide) rfl 7 0 rfl
        have L := prog_loop a [(⟨#[100, 101, 118]⟩ : ByteArray), (⟨#[97]⟩ : ByteArray), (⟨#[98]⟩ : ByteArray), (⟨#[114, 99]⟩ : ByteArray), (⟨#[35]⟩ : ByteArray), (⟨#[112]⟩ : ByteArray)] (by decide) 6 0 rfl
        simp only [List.drop_zero] at R L
        have l : Ev (fun k => impl_PackagistWeight.f k a) (if pre a (⟨#[82, 67]⟩ : ByteArray) then 3 else at_ a [(⟨#[100, 101, 118]⟩ : ByteArray), (⟨#[97]⟩ : ByteArray), (⟨#[98]⟩ : ByteArray), (⟨#[114, 99]⟩ : ByteArray), (⟨#[35]⟩ : ByteArray), (⟨#[112]⟩ : ByteArray)] 0) := by
          unfold impl_PackagistWeight.f semantic_ZZPackagistWeight.f semantic_weighPackagistBuildCharacter.f
          simp only [Option.bind_some, has_pre, Option.bind_fun_some]
          by_cases hp : pre a (⟨#[82, 67]⟩ : ByteArray) = true
          · rw [if_pos hp]
            exact ev_pos hp (Ev.now _)
          · rw [if_neg hp]
            exact ev_neg hp L
        have s : Ev (fun k => spec_PackagistWeight.f k a) (by_ a [(⟨#[82, 67]⟩ : ByteArray), (⟨#[100, 101, 118]⟩ : ByteArray), (⟨#[97]⟩ : ByteArray), (⟨#[98]⟩ : ByteArray), (⟨#[114, 99]⟩ : ByteArray), (⟨#[35]⟩ : ByteArray), (⟨#[112]⟩ : ByteArray)] [3, 0, 1, 2, 3, 4, 5]) := by
          unfold spec_PackagistWeight.f spec_packWeight.f
          simp only [Option.bind_fun_some]
          exact R
        refine l.bind (s.bind ?_)
        have e : (if pre a (⟨#[82, 67]⟩ : ByteArray) then 3 else at_ a [(⟨#[100, 101, 118]⟩ : ByteArray), (⟨#[97]⟩ : ByteArray), (⟨#[98]⟩ : ByteArray), (⟨#[114, 99]⟩ : ByteArray), (⟨#[35]⟩ : ByteArray), (⟨#[112]⟩ : ByteArray)] 0) = by_ a [(⟨#[82, 67]⟩ : ByteArray), (⟨#[100, 101, 118]⟩ : ByteArray), (⟨#[97]⟩ : ByteArray), (⟨#[98]⟩ : ByteArray), (⟨#[114, 99]⟩ : ByteArray), (⟨#[35]⟩ : ByteArray), (⟨#[112]⟩ : ByteArray)] [3, 0, 1, 2, 3, 4, 5] := by
          simp [at_, by_]
        rw [e]
        simpa using Ev.now true

end Go.Proofs.Ytojabknjniihmaa.Pure
