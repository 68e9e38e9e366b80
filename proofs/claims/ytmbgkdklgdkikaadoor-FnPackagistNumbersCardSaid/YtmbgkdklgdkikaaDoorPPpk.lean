/- Plain laws of components of Packagist: what the statements' own functions tell of them. -/
import Derived.Test.YtmbgkdklgdkikaaDoorPPshort
import Derived.Test.YtmbgkdklgdkikaaDoorPPdg
import Derived.Test.YtmbgkdklgdkikaaDoorPPdigits
import Derived.Test.YtmbgkdklgdkikaaDoorPPfits
import Derived.Test.YtmbgkdklgdkikaaDoorPPno
import Derived.Test.YtmbgkdklgdkikaaDoorGivPn
namespace Go.Proofs.YtmbgkdklgdkikaaDoor.Pure
open Go.RowKit Go.Proofs.YtmbgkdklgdkikaaDoor.QP Go.Proofs.YtmbgkdklgdkikaaDoorW.PrintWords Go.Proofs.YtmbgkdklgdkikaaDoorW.PrintLast Go.Proofs.YtmbgkdklgdkikaaDoor.Pk Go.Proofs.YtmbgkdklgdkikaaDoor.Giv Go.Proofs.YtmbgkdklgdkikaaDoor.Ord
set_option linter.unusedVariables false

theorem tl_ev (s : ByteArray) (hs : s.size ≤ 1500) (nx : Nat → Option Bool) (P : Prop) (h : ∃ b, Ev nx b ∧ (b = true → P)) :
    ∃ b, Ev (fun k => if (s.size : Int) > 1 then (if 0 < (s.size : Int) then (if (bt s 0) = 45 then (if 1 ≤ (s.size : Int) then ((spec_allDigits.f k (s.extract 1 s.size)).bind fun t => (if t = true then (some false) else (nx k))) else (none)) else (if (bt s 0) = 43 then (if 1 ≤ (s.size : Int) then ((spec_allDigits.f k (s.extract 1 s.size)).bind fun t => (if t = true then (some false) else (nx k))) else (none)) else (nx k))) else (none)) else (nx k)) b ∧ (b = true → P) := by
  obtain ⟨b, e, f⟩ := h
  have sub : ∃ b, Ev (fun k => (spec_allDigits.f k (s.extract 1 s.size)).bind fun t => (if t = true then (some false) else (nx k))) b ∧ (b = true → P) := by
    have a := allDigits_ev (s.extract 1 s.size) (by rw [ByteArray.size_extract]; omega)
    cases hd : Num.digits (s.extract 1 s.size).toList with
    | true => rw [hd] at a; exact ⟨false, a.bind (ev_pos rfl (Ev.now _)), fun h => by cases h⟩
    | false => rw [hd] at a; exact ⟨b, a.bind (ev_neg (by simp) e), f⟩
  obtain ⟨c, ec, fc⟩ := sub
  by_cases h1 : (s.size : Int) > 1
  · by_cases h45 : bt s 0 = 45
    · exact ⟨c, ev_pos h1 (ev_pos (by omega) (ev_pos h45 (ev_pos (by omega) ec))), fc⟩
    · by_cases h43 : bt s 0 = 43
      · exact ⟨c, ev_pos h1 (ev_pos (by omega) (ev_neg h45 (ev_pos h43 (ev_pos (by omega) ec)))), fc⟩
      · exact ⟨b, ev_pos h1 (ev_pos (by omega) (ev_neg h45 (ev_neg h43 e))), f⟩
  · exact ⟨b, ev_neg h1 e, f⟩
/-- A component that is small, and a number of at most 18 digits where it is one. -/
def Cp (s : ByteArray) : Prop := s.size ≤ 1500 ∧ (Num.digits s.toList = true → s.size ≤ 18)
theorem pknown_loop (l : List ByteArray) (hl : l.length ≤ 150) (hs : ∀ s ∈ l, s.size ≤ 1500) (d : Nat) : ∀ i : Nat, i + d = l.length → ∃ b, Ev (fun k => spec_PackagistKnown.l0 k l (i : Int)) b ∧ (b = true → ∀ s ∈ l.drop i, Cp s) := by
  induction d with
  | zero =>
    intro i hi
    refine ⟨true, Ev.step (fun k => by rw [spec_PackagistKnown.l0]) (ev_neg (by omega) (Ev.now _)), fun _ t ht => ?_⟩
    rw [List.drop_of_length_le (by omega)] at ht
    cases ht
  | succ d ih =>
    intro i hi
    have hlt : i < l.length := by omega
    have w := wr i (by omega)
    have r := rdOf_nat ByteArray.empty l i hlt
    have hz := hs _ (List.getElem_mem hlt)
    have a := allDigits_ev l[i] (by omega)
    obtain ⟨b, e, f⟩ := ih (i + 1) (by omega)
    have good : ∀ P : Prop, P → (b = true → ∀ s ∈ l.drop (i + 1), Cp s) → (b = true → P ∧ ∀ s ∈ l.drop (i + 1), Cp s) := fun P p h hb => ⟨p, h hb⟩
    have fin : ∀ c : Bool, (c = true → Cp l[i] ∧ ∀ s ∈ l.drop (i + 1), Cp s) → (c = true → ∀ s ∈ l.drop i, Cp s) := fun c h hc t ht => by
      rw [List.drop_eq_getElem_cons hlt] at ht
      rcases List.mem_cons.1 ht with rfl | ht
      · exact (h hc).1
      · exact (h hc).2 t ht
    cases hd : Num.digits l[i].toList with
    | true =>
      rw [hd] at a
      by_cases h18 : (l[i].size : Int) > 18
      · refine ⟨false, Ev.step (fun k => by rw [spec_PackagistKnown.l0, r]) ?_, fun h => by cases h⟩
        exact ev_pos (by omega) (ev_pos (by omega) (a.bind (ev_pos rfl (ev_pos h18 (Ev.now _)))))
      · obtain ⟨c, ec, fc⟩ := tl_ev l[i] hz (fun k => spec_PackagistKnown.l0 k l ((i + 1 : Nat) : Int)) _ ⟨b, e, good (Cp l[i]) ⟨hz, fun _ => by omega⟩ f⟩
        refine ⟨c, Ev.step (fun k => by rw [spec_PackagistKnown.l0, r, w]) ?_, fin c fc⟩
        exact ev_pos (by omega) (ev_pos (by omega) (a.bind (ev_pos rfl (ev_neg h18 ec))))
    | false =>
      rw [hd] at a
      obtain ⟨c, ec, fc⟩ := tl_ev l[i] hz (fun k => spec_PackagistKnown.l0 k l ((i + 1 : Nat) : Int)) _ ⟨b, e, good (Cp l[i]) ⟨hz, fun h => by rw [hd] at h; cases h⟩ f⟩
      refine ⟨c, Ev.step (fun k => by rw [spec_PackagistKnown.l0, r, w]) ?_, fin c fc⟩
      exact ev_pos (by omega) (ev_pos (by omega) (a.bind (ev_neg (by simp) ec)))
theorem rdL (l : List (List ByteArray)) (i : Nat) (h : i < l.length) : rd_L1 l (i : Int) = l[i] := by
  unfold rd_L1
  rw [Int.toNat_natCast, List.getD_eq_getElem?_getD, List.getElem?_eq_getElem h]
  rfl
theorem pack_loop (L : List (List ByteArray)) (hL : L.length ≤ 100) (hs : ∀ l ∈ L, l.length < 4611686018427387904) (d : Nat) : ∀ i : Nat, i + d = L.length → ∃ b, Ev (fun k => laws_packagist.l0 k L (L.length : Int) (i : Int)) b ∧ (b = true → ∀ l ∈ L.drop i, l.length ≤ 150 ∧ ∀ s ∈ l, Cp s) := by
  induction d with
  | zero =>
    intro i hi
    refine ⟨true, Ev.step (fun k => by rw [laws_packagist.l0]) (ev_neg (by omega) (Ev.now _)), fun _ t ht => ?_⟩
    rw [List.drop_of_length_le (by omega)] at ht
    cases ht
  | succ d ih =>
    intro i hi
    have hlt : i < L.length := by omega
    have w := wr i (by omega)
    have r := rdL L i hlt
    have sh := short_ev L[i] (hs _ (List.getElem_mem hlt))
    cases hb : shortB L[i] with
    | false =>
      rw [hb] at sh
      refine ⟨false, Ev.step (fun k => by rw [laws_packagist.l0, r]) ?_, fun h => by cases h⟩
      exact ev_pos (by omega) (ev_pos (by omega) (ev_pos (by omega) (sh.bind (ev_neg (by simp) (Ev.now _)))))
    | true =>
      rw [hb] at sh
      obtain ⟨b, e, f⟩ := pknown_loop L[i] (short_len hb) (short_sizes hb) L[i].length 0 (by omega)
      have e' : Ev (fun k => spec_PackagistKnown.f k L[i]) b := e
      cases b with
      | false =>
        refine ⟨false, Ev.step (fun k => by rw [laws_packagist.l0, r]) ?_, fun h => by cases h⟩
        exact ev_pos (by omega) (ev_pos (by omega) (ev_pos (by omega) (sh.bind (ev_pos rfl (e'.bind (ev_neg (by simp) (Ev.now _)))))))
      | true =>
        obtain ⟨c, ec, fc⟩ := ih (i + 1) (by omega)
        refine ⟨c, Ev.step (fun k => by rw [laws_packagist.l0, r, w]) ?_, fun h t ht => ?_⟩
        · exact ev_pos (by omega) (ev_pos (by omega) (ev_pos (by omega) (sh.bind (ev_pos rfl (e'.bind (ev_pos rfl ec))))))
        · rw [List.drop_eq_getElem_cons hlt] at ht
          rcases List.mem_cons.1 ht with rfl | ht
          · exact ⟨short_len hb, by simpa using f rfl⟩
          · exact fc h t ht
theorem pack_ev (a b : List ByteArray) (ha : a.length < 4611686018427387904) (hb : b.length < 4611686018427387904) : ∃ r, Ev (fun k => laws_packagist.f k [a, b]) r ∧ (r = true → (a.length ≤ 150 ∧ ∀ s ∈ a, Cp s) ∧ (b.length ≤ 150 ∧ ∀ s ∈ b, Cp s)) := by
  obtain ⟨r, e, f⟩ := pack_loop [a, b] (by simp) (by intro l hl; rcases List.mem_cons.1 hl with rfl | hl; exact ha; obtain rfl := List.mem_singleton.1 hl; exact hb) 2 0 rfl
  exact ⟨r, e, fun h => ⟨f h a (by simp), f h b (by simp)⟩⟩
/-- Is a text digits alone? -/
def dB (s : ByteArray) : Bool := s.toList.all Rpm.dig && !s.toList.isEmpty
theorem dB_ev (s : ByteArray) (h : s.size ≤ 1500) : Ev (fun k => laws_digits.f k s) (dB s) := by
  have := digits_ev s.toList (by rw [len_toList]; omega)
  rw [← bs_of s] at this
  exact this
theorem dB_num {s : ByteArray} (h : dB s = true) (hc : Cp s) : NumS s := by
  have e : Num.digits s.toList = true := by
    unfold dB at h
    rw [Bool.and_comm] at h
    exact h
  exact ⟨hc.2 e, e⟩
/-- The number of a component, told. -/
def nz (s : ByteArray) : Int := (Num.dec s.toList : Int)
theorem num_ev {s : ByteArray} (h : NumS s) : Ev (fun k => spec_Number.f k s) ((told (nz s)).1, (told (nz s)).2, true) := by
  have := specNumber_ev s (by have := h.1; omega)
  rw [h.parse] at this
  exact this
theorem cmp1_ev (x y : Int) : Ev (fun k => spec_CompareNumbers.f k [(⟨(told x).1, (told x).2⟩ : S28)] [(⟨(told y).1, (told y).2⟩ : S28)]) (cI x y) := by
  have := compareNumbers_ev [x] [y] (by simp) (by simp)
  have e : padL cI 0 [x] [y] = cI x y := by
    unfold padL padN
    simp [padN]
    intro h
    exact h.symm
  rw [e] at this
  exact this
theorem first2 (x y : Int) : Ev (fun k => laws_first.f k [x, y]) (if x = 0 then y else x) := by
  unfold laws_first.f
  have r0 : rd [x, y] 0 = x := rfl
  have r1 : rd [x, y] 1 = y := rfl
  have e1 : wrap64 (0 + 1) = 1 := by unfold wrap64; decide
  have e2 : wrap64 (1 + 1) = 2 := by unfold wrap64; decide
  have l2 : ([x, y].length : Int) = 2 := rfl
  rw [l2]
  refine Ev.step (fun k => by rw [laws_first.l0, r0, l2, e1]) ?_
  refine ev_pos (by decide) (ev_pos (by decide) (ev_pos (by decide) ?_))
  by_cases h : x = 0
  · rw [if_pos h]
    refine ev_pos h ?_
    refine Ev.step (fun k => by rw [laws_first.l0, r1, l2, e2]) ?_
    refine ev_pos (by decide) (ev_pos (by decide) (ev_pos (by decide) ?_))
    by_cases h2 : y = 0
    · rw [h2]
      refine ev_pos rfl ?_
      refine Ev.step (fun k => by rw [laws_first.l0]) ?_
      exact ev_neg (by decide) (Ev.now _)
    · exact ev_neg h2 (Ev.now _)
  · rw [if_neg h]
    exact ev_neg h (Ev.now _)
theorem sgn (x y : Nat) (hx : x ≤ 1000) (hy : y ≤ 1000) : laws_sign.f (wrap64 ((x : Int) - (y : Int))) = some (cI (x : Int) (y : Int)) := by
  have e : wrap64 ((x : Int) - (y : Int)) = (x : Int) - (y : Int) := by unfold wrap64; omega
  rw [e]
  unfold laws_sign.f mx mn cI
  congr 1
  repeat' split
  all_goals omega
end Go.Proofs.YtmbgkdklgdkikaaDoor.Pure
