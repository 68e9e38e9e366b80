/- What the reference answers of Debian's texts: blanks around, what is known, parts compared. -/
import Derived.Test.YtchnlfkdgajodaaDoorDPon
import Derived.Test.YtchnlfkdgajodaaDoorDPasc2
import Derived.Test.YtchnlfkdgajodaaDoorDPidx
import Derived.Test.YtchnlfkdgajodaaDoorZD
import Derived.Test.YtchnlfkdgajodaaDoorDeb
namespace Go.Proofs.YtchnlfkdgajodaaDoor.QD
open Go.RowKit Go.Proofs.YtchnlfkdgajodaaDoorW.PrintWords Go.Proofs.YtchnlfkdgajodaaDoorW.PrintLast Go.Proofs.YtchnlfkdgajodaaDoor.Pk Go.Proofs.YtchnlfkdgajodaaDoor.Giv Go.Proofs.YtchnlfkdgajodaaDoor.Ord
set_option linter.unusedVariables false
set_option linter.unusedSimpArgs false

/-- A blank. -/
def blk (c : UInt8) : Bool := decide (c.toNat = 32 ∨ 9 ≤ c.toNat ∧ c.toNat ≤ 13)
theorem debBlank_f (c : UInt8) : spec_debBlank.f (c.toNat : Int) = some (blk c) := by
  unfold spec_debBlank.f blk
  by_cases h : (c.toNat : Int) = 32
  · rw [if_pos h, decide_eq_true (by omega)]
  · rw [if_neg h]
    by_cases h2 : (c.toNat : Int) ≥ 9
    · rw [if_pos h2]
      congr 1
      rw [decide_eq_decide]
      omega
    · rw [if_neg h2]
      congr 1
      rw [eq_comm, decide_eq_false_iff_not]
      omega
/-- A text without blanks at its end. -/
def rdw (l : List UInt8) : List UInt8 := (l.reverse.dropWhile blk).reverse
theorem rdw_snoc (r : List UInt8) (c : UInt8) : rdw (r ++ [c]) = if blk c = true then rdw r else r ++ [c] := by
  unfold rdw
  rw [List.reverse_append, List.reverse_cons, List.reverse_nil, List.nil_append, List.singleton_append]
  cases h : blk c with
  | true => rw [List.dropWhile_cons_of_pos h]; rfl
  | false => rw [List.dropWhile_cons_of_neg (by simp [h])]; simp
/-- A text without blanks around. -/
def dtrim (l : List UInt8) : List UInt8 := rdw (l.dropWhile blk)
theorem trim_l1 (n : Nat) : ∀ l : List UInt8, l.length = n → l.length < 4611686018427387904 → Ev (fun k => spec_debTrim.l1 k (bs l)) (bs (rdw l)) := by
  induction n with
  | zero =>
    intro l hl _
    obtain rfl := List.length_eq_zero_iff.1 hl
    refine Ev.step (fun k => by rw [spec_debTrim.l1, bs_size]) ?_
    refine ev_neg (by simp) ?_
    exact Ev.now _
  | succ n ih =>
    intro l hl hb
    have hne : l ≠ [] := fun e => by rw [e] at hl; simp at hl
    obtain ⟨r, c, rfl⟩ : ∃ r c, l = r ++ [c] := ⟨l.dropLast, l.getLast hne, (List.dropLast_concat_getLast hne).symm⟩
    have hr : r.length = n := by rw [List.length_append, List.length_singleton] at hl; omega
    have w : wrap64 (((r ++ [c]).length : Int) - 1) = (n : Int) := by rw [hl]; unfold wrap64; rw [hl] at hb; omega
    have b : bt (bs (r ++ [c])) (n : Int) = (c.toNat : Int) := by
      have := bs_bt (r ++ [c]) n (by omega)
      rw [this, List.getElem_append_right (by omega)]
      simp [hr]
    refine Ev.step (fun k => by rw [spec_debTrim.l1, bs_size, w, b, debBlank_f]) ?_
    rw [hl]
    refine ev_pos (by omega) (ev_pos (by omega) (ev_pos (by omega) (ev_some ?_)))
    rw [rdw_snoc]
    cases h : blk c with
    | true =>
      refine ev_pos rfl (ev_pos (by omega) ?_)
      rw [Int.toNat_natCast, bs_extHead, List.take_left' hr, if_pos rfl]
      exact ih r hr (by omega)
    | false =>
      rw [if_neg (by simp)]
      exact ev_neg (by simp) (Ev.now _)
theorem trim_l0 (l : List UInt8) : l.length < 4611686018427387904 → Ev (fun k => spec_debTrim.l0 k (bs l)) (bs (dtrim l)) := by
  have fin : ∀ l : List UInt8, l.length < 4611686018427387904 → Ev (fun k => spec_debTrim.j1 k (bs l)) (bs (rdw l)) := fun l hl => by
    refine Ev.step (fun k => by rw [spec_debTrim.j1]) ?_
    exact trim_l1 l.length l rfl hl
  induction l with
  | nil =>
    intro hl
    refine Ev.step (fun k => by rw [spec_debTrim.l0, bs_size]) ?_
    exact ev_neg (by simp) (fin [] hl)
  | cons c r ih =>
    intro hl
    have hr : r.length < 4611686018427387904 := by rw [List.length_cons] at hl; omega
    refine Ev.step (fun k => by rw [spec_debTrim.l0, bs_bt0, debBlank_f, bs_tail, bs_size]) ?_
    refine ev_pos (by rw [List.length_cons]; omega) (ev_pos (by rw [List.length_cons]; omega) (ev_some ?_))
    unfold dtrim
    cases h : blk c with
    | true =>
      rw [List.dropWhile_cons_of_pos h]
      exact ev_pos rfl (ev_pos (by rw [List.length_cons]; omega) (ih hr))
    | false =>
      rw [List.dropWhile_cons_of_neg (by simp [h])]
      exact ev_neg (by simp) (fin (c :: r) hl)
theorem debTrim_ev (l : List UInt8) (hl : l.length < 4611686018427387904) : Ev (fun k => spec_debTrim.f k (bs l)) (bs (dtrim l)) := trim_l0 l hl
theorem rdw_len (l : List UInt8) : (rdw l).length ≤ l.length := by
  unfold rdw
  rw [List.length_reverse]
  exact Nat.le_trans (List.dropWhile_sublist _).length_le (by rw [List.length_reverse]; exact Nat.le_refl _)
theorem dtrim_len (l : List UInt8) : (dtrim l).length ≤ l.length := Nat.le_trans (rdw_len _) (List.dropWhile_sublist _).length_le
theorem place_ge (p : UInt8 → Bool) (l : List UInt8) : decide (placeOf p l ≥ 0) = l.any p := by
  unfold placeOf
  cases h : l.any p with
  | true => rw [if_pos rfl]; simp
  | false => rw [if_neg (by simp)]; rfl
theorem place_lt (p : UInt8 → Bool) (l : List UInt8) : placeOf p l < 0 ↔ l.any p = false := by
  unfold placeOf
  cases h : l.any p with
  | true => rw [if_pos rfl]; simp
  | false => rw [if_neg (by simp)]; simp
/-- A sign ahead of an epoch. -/
def sgn (t : List UInt8) : Bool := (t.head? == some 43 || t.head? == some 45) && t.any (fun x => x == 58)
/-- A text of which it is said what it means. -/
def knownB (l : List UInt8) : Bool := l.all (fun c => decide (c.toNat < 128)) && !(l.any fun c => c == 0) && !sgn (dtrim l)
theorem knownB_okB {l : List UInt8} (h : knownB l = true) (hl : l.length ≤ 40000) : okB l = true := by
  unfold knownB at h
  rw [Bool.and_eq_true, Bool.and_eq_true] at h
  obtain ⟨⟨h1, h2⟩, _⟩ := h
  rw [List.all_eq_true] at h1
  rw [Bool.not_eq_true', List.any_eq_false] at h2
  unfold okB
  rw [Bool.and_eq_true, List.all_eq_true]
  refine ⟨decide_eq_true hl, fun c hc => decide_eq_true ⟨of_decide_eq_true (h1 c hc), fun e => h2 c hc ?_⟩⟩
  rw [beq_iff_eq]
  exact UInt8.toNat_inj.1 e
theorem known_ev (l : List UInt8) (hl : l.length < 4611686018427387904) : Ev (fun k => spec_DebianKnown.f k (bs l)) (knownB l) := by
  have hs : (bs l).size < 4611686018427387904 := by rw [bs_size]; exact hl
  have az := ascii_ev (bs l) hs
  have iz := indexOf_ev (bs l) 0 hs
  rw [bs_toList] at iz
  have ea : QD.ascB (bs l) = l.all (fun c => decide (c.toNat < 128)) := by unfold QD.ascB; rw [bs_toList]
  rw [ea] at az
  have fin : ∀ sg : Bool, sg = sgn (dtrim l) → Ev (fun k => (spec_Ascii.f k (bs l)).bind fun t => if t = true then ((spec_indexOf.f k (bs l) 0).bind fun i => (if i < 0 then some (!sg) else some false)) else some false) (knownB l) := by
    intro sg e
    refine az.bind ?_
    unfold knownB
    rw [← e]
    cases h1 : l.all (fun c => decide (c.toNat < 128)) with
    | false => exact ev_neg (by simp) (by simpa using Ev.now false)
    | true =>
      refine ev_pos rfl (iz.bind ?_)
      cases h2 : l.any (fun c => c == 0) with
      | true => exact ev_neg (fun e => by rw [place_lt, h2] at e; exact absurd e (by simp)) (by simpa using Ev.now false)
      | false => exact ev_pos ((place_lt _ _).2 h2) (by simpa using Ev.now (!sg))
  unfold spec_DebianKnown.f
  refine (debTrim_ev l hl).bind ?_
  have tl := dtrim_len l
  cases ht : dtrim l with
  | nil =>
    rw [bs_size]
    refine ev_neg (by simp) ?_
    exact fin false (by rw [ht]; rfl)
  | cons c r =>
    rw [ht, List.length_cons] at tl
    have ix := indexOf_ev (bs (c :: r)) 58 (by rw [bs_size, List.length_cons]; omega)
    rw [bs_toList] at ix
    rw [bs_size, bs_bt0]
    refine ev_pos (by rw [List.length_cons]; omega) (ev_pos (by rw [List.length_cons]; omega) ?_)
    by_cases h1 : (c.toNat : Int) = 43
    · have hc : c = 43 := UInt8.toNat_inj.1 (by show c.toNat = 43; omega)
      refine ev_pos h1 (ix.bind ?_)
      rw [place_ge]
      exact fin _ (by rw [ht]; unfold sgn; rw [hc]; rfl)
    · refine ev_neg h1 ?_
      by_cases h2 : (c.toNat : Int) = 45
      · have hc : c = 45 := UInt8.toNat_inj.1 (by show c.toNat = 45; omega)
        refine ev_pos h2 (ix.bind ?_)
        rw [place_ge]
        exact fin _ (by rw [ht]; unfold sgn; rw [hc]; rfl)
      · refine ev_neg h2 ?_
        refine fin false ?_
        rw [ht]
        unfold sgn
        have n1 : ((c :: r).head? == some (43 : UInt8)) = false := beq_eq_false_iff_ne.2 (fun e => h1 (by injection e with e; rw [e]; rfl))
        have n2 : ((c :: r).head? == some (45 : UInt8)) = false := beq_eq_false_iff_ne.2 (fun e => h2 (by injection e with e; rw [e]; rfl))
        rw [n1, n2]
        rfl
end Go.Proofs.YtchnlfkdgajodaaDoor.QD
