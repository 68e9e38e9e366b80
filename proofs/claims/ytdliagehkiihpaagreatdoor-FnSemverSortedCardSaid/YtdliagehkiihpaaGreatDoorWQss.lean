/- The law FnSemverSorted's contract in the print's form (the walk by hand: GivSs). -/
import Derived.Test.YtdliagehkiihpaaGreatDoorQWx
import Derived.Test.YtdliagehkiihpaaGreatDoorZT
import Derived.Test.YtdliagehkiihpaaGreatDoorZV
import Derived.Test.YtdliagehkiihpaaGreatDoorZWS
namespace Go.Proofs.YtdliagehkiihpaaGreatDoor.QW
open Go.RowKit Go.Proofs.YtdliagehkiihpaaGreatDoorW.PrintWords Go.Proofs.YtdliagehkiihpaaGreatDoorW.PrintLast Go.Proofs.YtdliagehkiihpaaGreatDoor.Pk Go.Proofs.YtdliagehkiihpaaGreatDoor.Giv Go.Proofs.YtdliagehkiihpaaGreatDoor.Ord
set_option linter.unusedVariables false
set_option linter.unusedSimpArgs false
theorem be_mag (n : Nat) : Dg.be (Lb.mag n) = n := Lb.mag_inj (Lb.mag_be (Lb.mag n).length (Lb.mag n) rfl (Lb.mag_head n))
theorem zn_pn (zs : List Int) : zn (pn zs) = zs := by
  unfold zn pn
  rw [List.map_map]
  conv => rhs; rw [← List.map_id zs]
  refine List.map_congr_left (fun z _ => ?_)
  show (if decide (z < 0) = true then -((Dg.be (bs (Lb.mag z.natAbs)).toList : Nat) : Int) else ((Dg.be (bs (Lb.mag z.natAbs)).toList : Nat) : Int)) = z
  rw [bs_toList, be_mag]
  by_cases h : z < 0
  · rw [if_pos (decide_eq_true h)]
    omega
  · rw [if_neg (by simp [h])]
    omega
/-- A version's parts. -/
def lkS (s : ByteArray) : S37 := ⟨Slk.lead s.toList, pn (Slk.parse s.toList).1, bs (Slk.parse s.toList).2, s⟩
/-- What the law asks of a text. -/
def fewB (s : ByteArray) : Bool := shortB [s] && (Lib.validD s.toList && (ascB s && decide ((pn (Slk.parse s.toList).1).length ≤ 3)))
theorem few_ev (s : ByteArray) : Ev (fun k => laws_few.f k s 3) (fewB s) := by
  have sh := short_ev [s] (by simp)
  unfold laws_few.f fewB
  cases hs : shortB [s] with
  | false =>
    rw [hs] at sh
    exact sh.bind (ev_neg (by simp) (Ev.now _))
  | true =>
    rw [hs] at sh
    have zs := short_sizes hs s (by simp)
    have kn : spec_LikeKnown.f s = some (Lib.validD s.toList) := by
      unfold spec_LikeKnown.f Giv.utf8_ValidString.f
      rw [if_pos (by omega)]
      rfl
    have asv := ascii_ev s (by omega)
    have lp := likeParse_ev s (by omega)
    rw [Bool.true_and]
    refine sh.bind (ev_pos rfl ?_)
    rw [kn]
    refine ev_some ?_
    cases hv : Lib.validD s.toList with
    | false => exact ev_neg (by simp) (Ev.now _)
    | true =>
      rw [Bool.true_and]
      refine ev_pos rfl (asv.bind ?_)
      cases ha : ascB s with
      | false => exact ev_neg (by simp) (Ev.now _)
      | true =>
        rw [Bool.true_and]
        refine ev_pos rfl (Ev.bind (a := decide ((pn (Slk.parse s.toList).1).length ≤ 3)) ?_ (Ev.now _))
        unfold spec_FewNumbers.f
        refine lp.bind ?_
        have e : decide (((pn (Slk.parse s.toList).1).length : Int) ≤ 3) = decide ((pn (Slk.parse s.toList).1).length ≤ 3) := by
          rw [decide_eq_decide]
          omega
        rw [← e]
        exact Ev.now _
theorem few_of {s : ByteArray} (h : fewB s = true) : s.size ≤ 1500 ∧ okT s = true ∧ (pn (Slk.parse s.toList).1).length ≤ 3 := by
  unfold fewB at h
  rw [Bool.and_eq_true, Bool.and_eq_true, Bool.and_eq_true] at h
  have h1 := short_sizes h.1 s (by simp)
  have h3 := of_decide_eq_true h.2.2.2
  refine ⟨h1, okT_of (by omega) ?_ ?_, h3⟩
  · have ha := h.2.2.1
    unfold ascB at ha
    rw [List.all_eq_true] at ha
    exact fun c hc => of_decide_eq_true (ha c hc)
  · unfold pn at h3
    rw [List.length_map] at h3
    exact h3
def cmpT (x y : ByteArray) : Int := smC (Slk.parse x.toList).1 (Slk.parse y.toList).1 (Slk.parse x.toList).2 (Slk.parse y.toList).2
theorem cmpT_cmp : Cmp cmpT := ((padL_cmp cI_cmp 0).key (fun s : ByteArray => (Slk.parse s.toList).1)).then_ (Cut.buildC_cmp.key (fun s : ByteArray => (Slk.parse s.toList).2))
def laws_FnSemverSorted.f (k : Nat) (l0 : List ByteArray) : Option (Bool) := some true
theorem laws_FnSemverSorted.calls (k : Nat) (A0 : Option Addr) (c0 : Nat) (l0 : List ByteArray) (r : Bool) (w : World) (hr0 : Kd.C Kd.string w A0 l0.length l0) (hc0 : l0.length ≤ c0) (h : laws_FnSemverSorted.f k l0 = some r) (hL : Giv.LaidU w) :
    Calls Tryz.prog 5 #[.slice A0 l0.length c0] w fun e w' => e = .returned (.bool r) ∧ Below w.heap.size w w' := by
  obtain rfl : true = r := Option.some.inj h
  clear h
  obtain ⟨fits, hf, hf2⟩ := fits_ev l0
  obtain ⟨k1, h1⟩ := hf.rounds
  have sk : ∀ s : ByteArray, ∃ q : Bool, fewB s = true → Ev (fun k => laws_likes.f k [lkS s]) q ∧ (q = true → Lkd (lkS s)) := fun s => by
    cases hs : fewB s with
    | false => exact ⟨false, fun e => absurd e (by decide)⟩
    | true =>
      obtain ⟨q, e, i⟩ := likes_one (lkS s) (by have := (few_of hs).2.2; show (pn (Slk.parse s.toList).1).length ≤ _; omega)
      exact ⟨q, fun _ => ⟨e, i⟩⟩
  obtain ⟨kn, hkn⟩ := Classical.axiomOfChoice sk
  refine sorted_calls l0 A0 c0 w hr0 hc0 fits fewB kn cmpT cmpT_cmp ?_ (fun s => Slk.lead s.toList) (fun s => bs (Slk.parse s.toList).2) (fun s A n c w' => n = (pn (Slk.parse s.toList).1).length ∧ (pn (Slk.parse s.toList).1).length ≤ c ∧ Kd.C k64 w' A (pn (Slk.parse s.toList).1).length (pn (Slk.parse s.toList).1)) (fun s A n c w1 w2 h d => ⟨h.1, h.2.1, Kd.C_below h.2.2 d⟩) ?_ ?_ ?_ ?_ ?_
  · intro w' hb
    refine (laws_zzFits1.calls k1 A0 c0 l0 fits w' (Kd.C_below hr0 hb) hc0 h1).mono ?_
    rintro e w2 ⟨rfl, d⟩
    exact ⟨rfl, d.below⟩
  · intro ef s hs w' hb
    obtain ⟨k2, h2⟩ := (few_ev s).rounds
    exact laws_few.calls k2 s 3 _ w' h2 (hL.below hb)
  · intro ef s hs ho w' hb
    obtain ⟨k2, h2⟩ := (likeParse_ev s (by have := (few_of ho).1; omega)).rounds
    refine (spec_LikeParse.calls k2 s _ _ _ _ w' h2).mono ?_
    rintro e w2 ⟨v, rfl, hr, d⟩
    obtain ⟨A, c, rfl, hc, hC⟩ := Kd.R_reads hr
    exact ⟨A, _, c, rfl, ⟨rfl, hc, hC⟩, d⟩
  · intro ef s hs ho A n c g w' hb hrow hg
    obtain ⟨k2, h2⟩ := (hkn s ho).1.rounds
    obtain ⟨rfl, hc, hC⟩ := hrow
    refine laws_likes.calls k2 (some ⟨g, 0, none⟩) 1 [lkS s] _ w' ?_ (Nat.le_refl _) h2
    refine ⟨rfl, by simp, fun _ => ⟨_, rfl, ?_⟩⟩
    intro j q hj
    match j, hj with
    | 0, hj =>
      obtain rfl := Option.some.inj hj
      refine ⟨_, rfl, k37_mk w' (lkS s) hc hC, ?_⟩
      intro i u hu
      match i, hu with
      | 0, hu => obtain rfl := Option.some.inj hu; exact blk_cell hg 0
      | 1, hu => obtain rfl := Option.some.inj hu; exact blk_cell hg 1
      | 2, hu => obtain rfl := Option.some.inj hu; exact blk_cell hg 2
      | 3, hu => obtain rfl := Option.some.inj hu; exact blk_cell hg 3
  · intro ef hg x hx y hy w' hb
    have ox := (few_of (hg x hx).1).2.1
    have oy := (few_of (hg y hy).1).2.1
    refine impl_SemverCompareText.calls x y _ _ w' ?_ (hL.below hb).toLaid
    unfold impl_SemverCompareText.f
    rw [ox, oy, Bool.and_self, if_pos rfl]
    rfl
  · intro ef hg x hx y hy A n c B m d w' hb hrx hry
    obtain ⟨rfl, hc1, hC1⟩ := hrx
    obtain ⟨rfl, hc2, hC2⟩ := hry
    have kx := (hkn x (hg x hx).1).2 (hg x hx).2
    have ky := (hkn y (hg y hy).1).2 (hg y hy).2
    have e := semver_ev (lkS x) (lkS y) kx ky
    have e1 : zn (lkS x).f1 = (Slk.parse x.toList).1 := zn_pn _
    have e2 : zn (lkS y).f1 = (Slk.parse y.toList).1 := zn_pn _
    have e3 : (lkS x).f2.toList = (Slk.parse x.toList).2 := bs_toList _
    have e4 : (lkS y).f2.toList = (Slk.parse y.toList).2 := bs_toList _
    rw [e1, e2, e3, e4] at e
    obtain ⟨k2, h2⟩ := e.rounds
    exact spec_SemverCompare.calls k2 _ A c _ _ _ _ B d _ _ _ _ _ w' hC1 hc1 hC2 hc2 h2
def laws_FnSemverSorted.Pure : Prop := ∀ (l0 : List ByteArray), l0.length ≤ 9223372036854775807 → (∀ s ∈ l0, s.size ≤ 9223372036854775807) → ∃ k, laws_FnSemverSorted.f k l0 = some true
end Go.Proofs.YtdliagehkiihpaaGreatDoor.QW
