/- Plain laws of tokens of Maven: what the statements' own functions tell of them. -/
import Derived.Test.YtkecmlpihnjjgaaDoorLPshort
import Derived.Test.YtkecmlpihnjjgaaDoorLPdg
import Derived.Test.YtkecmlpihnjjgaaDoorLPasc2
import Derived.Test.YtkecmlpihnjjgaaDoorLPon
import Derived.Test.YtkecmlpihnjjgaaDoorLGivMs
namespace Go.Proofs.YtkecmlpihnjjgaaDoor.Pure
open Go.RowKit Go.Proofs.YtkecmlpihnjjgaaDoor.QL Go.Proofs.YtkecmlpihnjjgaaDoorW.PrintWords Go.Proofs.YtkecmlpihnjjgaaDoorW.PrintLast Go.Proofs.YtkecmlpihnjjgaaDoor.Pk Go.Proofs.YtkecmlpihnjjgaaDoor.Giv Go.Proofs.YtkecmlpihnjjgaaDoor.Ord
set_option linter.unusedVariables false

theorem rdT (l : List S31) (i : Nat) (h : i < l.length) : rd_T31 l (i : Int) = l[i] := by
  unfold rd_T31
  rw [Int.toNat_natCast, List.getD_eq_getElem?_getD, List.getElem?_eq_getElem h]
  rfl
theorem rdZ (l : List S51) (i : Nat) (h : i < l.length) : rd_T51 l (i : Int) = l[i] := by
  unfold rd_T51
  rw [Int.toNat_natCast, List.getD_eq_getElem?_getD, List.getElem?_eq_getElem h]
  rfl
theorem rdL (l : List (List S31)) (i : Nat) (h : i < l.length) : rd_L3 l (i : Int) = l[i] := by
  unfold rd_L3
  rw [Int.toNat_natCast, List.getD_eq_getElem?_getD, List.getElem?_eq_getElem h]
  rfl
theorem wrp (n : Nat) (h : 1 ≤ n) (h2 : n < 4611686018427387904) : wrap64 ((n : Int) - 1) = ((n - 1 : Nat) : Int) := by unfold wrap64; omega
/-- A token whose texts are not huge. -/
def Sm (t : S31) : Prop := t.f0.size ≤ 2147483647 ∧ t.f1.size ≤ 2147483647
/-- Known tokens: what of them is wanted. -/
theorem known_ev (p v : ByteArray) (n : Bool) (hv : v.size ≤ 2147483647) : ∃ b, Ev (fun k => spec_TokenKnown.f k p v n) b ∧ (b = true → Seg.signed v.toList = false) := by
  have j0 : ∀ x : Bool, ∃ b, Ev (fun k => spec_TokenKnown.j0 k x p v n) b ∧ (b = true → Seg.signed v.toList = false) := by
    intro x
    cases x with
    | true => exact ⟨false, Ev.step (fun k => by rw [spec_TokenKnown.j0]) (ev_pos rfl (Ev.now _)), fun h => absurd h (by simp)⟩
    | false =>
      have a := allDigits_ev v (by omega)
      cases hd : Num.digits v.toList with
      | true =>
        rw [hd] at a
        have hs : Seg.signed v.toList = false := by
          cases hl : v.toList with
          | nil => rfl
          | cons c r =>
            rw [hl] at hd
            unfold Num.digits at hd
            rw [Bool.and_eq_true, List.all_cons, Bool.and_eq_true] at hd
            have h2 := of_decide_eq_true hd.2.1
            have n1 : ¬ c.toNat = 45 := by omega
            have n2 : ¬ c.toNat = 43 := by omega
            unfold Seg.signed
            simp [n1, n2]
        by_cases h1 : (v.size : Int) = 1
        · refine ⟨true, Ev.step (fun k => by rw [spec_TokenKnown.j0]) ?_, fun _ => hs⟩
          exact ev_neg (by simp) (a.bind (ev_pos rfl (ev_pos h1 (Ev.now _))))
        · have h0 : 0 < (v.size : Int) := by
            have : v.toList ≠ [] := fun e => by rw [e] at hd; exact absurd hd (by decide)
            have := List.length_pos_iff.2 this
            rw [len_toList] at this
            omega
          refine ⟨((bt v 0) != 48), Ev.step (fun k => by rw [spec_TokenKnown.j0]) ?_, fun _ => hs⟩
          exact ev_neg (by simp) (a.bind (ev_pos rfl (ev_neg h1 (ev_pos h0 (Ev.now _)))))
      | false =>
        rw [hd] at a
        obtain ⟨b, hb, hi⟩ : ∃ b, spec_mavenLetters.f v = some b ∧ (b = true → Seg.signed v.toList = false) := by
          unfold spec_mavenLetters.f
          by_cases he : v.toList = []
          · exact ⟨true, by rw [if_pos he], fun _ => by rw [he]; rfl⟩
          · have h0 : 0 < v.size := by
              have := List.length_pos_iff.2 he
              rwa [len_toList] at this
            have b0 := bt_nat v 0 h0
            have hl : v.toList = v[0]'h0 :: v.toList.drop 1 := by
              have := drop_at v 0 h0
              rwa [List.drop_zero] at this
            rw [if_neg he, if_pos (by omega), show (0 : Int) = ((0 : Nat) : Int) from rfl, b0]
            by_cases h97 : ((v[0]'h0).toNat : Int) ≥ 97
            · refine ⟨_, by rw [if_pos h97], fun _ => ?_⟩
              have n1 : ¬ (v[0]'h0).toNat = 45 := by omega
              have n2 : ¬ (v[0]'h0).toNat = 43 := by omega
              rw [hl]
              unfold Seg.signed
              simp [n1, n2]
            · exact ⟨false, by rw [if_neg h97], fun h => absurd h (by simp)⟩
        refine ⟨b, Ev.step (fun k => by rw [spec_TokenKnown.j0]) ?_, hi⟩
        refine ev_neg (by simp) (a.bind (ev_neg (by simp) ?_))
        rw [hb]
        exact ev_some (Ev.now _)
  have asc := ascii_ev v (by omega)
  unfold spec_TokenKnown.f
  by_cases hn : n = true
  · obtain ⟨b, e, i⟩ := j0 true
    exact ⟨b, ev_pos hn e, i⟩
  · by_cases h0 : p.toList = []
    · obtain ⟨b, e, i⟩ := j0 (!ascB v)
      exact ⟨b, ev_neg hn (ev_pos h0 (asc.bind e)), i⟩
    · by_cases h1 : p.toList = [46]
      · obtain ⟨b, e, i⟩ := j0 (!ascB v)
        exact ⟨b, ev_neg hn (ev_neg h0 (ev_pos h1 (asc.bind e))), i⟩
      · by_cases h2 : p.toList = [45]
        · obtain ⟨b, e, i⟩ := j0 (!ascB v)
          exact ⟨b, ev_neg hn (ev_neg h0 (ev_neg h1 (ev_pos h2 (asc.bind e)))), i⟩
        · obtain ⟨b, e, i⟩ := j0 true
          exact ⟨b, ev_neg hn (ev_neg h0 (ev_neg h1 (ev_neg h2 e))), i⟩
theorem mk_loop (l : List S31) (hl : l.length ≤ 2147483647) (hs : ∀ t ∈ l, Sm t) (d : Nat) : ∀ i : Nat, i + d = l.length → ∃ b, Ev (fun k => spec_MavenKnown.l0 k l (i : Int)) b ∧ (b = true → ∀ t ∈ l.drop i, Seg.signed t.f1.toList = false) := by
  induction d with
  | zero =>
    intro i hi
    refine ⟨decide ((l.length : Int) > 0), Ev.step (fun k => by rw [spec_MavenKnown.l0]) (ev_neg (by omega) (Ev.now _)), fun _ t ht => ?_⟩
    rw [List.drop_of_length_le (by omega)] at ht
    cases ht
  | succ d ih =>
    intro i hi
    have hlt : i < l.length := by omega
    have w := wr i (by omega)
    have r := rdT l i hlt
    obtain ⟨b, hb, hf⟩ := known_ev l[i].f0 l[i].f1 l[i].f2 (hs _ (List.getElem_mem hlt)).2
    cases b with
    | false =>
      refine ⟨false, Ev.step (fun k => by rw [spec_MavenKnown.l0, r]) ?_, fun h => by cases h⟩
      exact ev_pos (by omega) (ev_pos (by omega) (hb.bind (ev_neg (by simp) (Ev.now _))))
    | true =>
      by_cases hc : ((l[i].f0.toList == ([] : List UInt8)) != ((i : Int) == 0)) = true
      · refine ⟨false, Ev.step (fun k => by rw [spec_MavenKnown.l0, r]) ?_, fun h => by cases h⟩
        exact ev_pos (by omega) (ev_pos (by omega) (hb.bind (ev_pos rfl (ev_pos hc (Ev.now _)))))
      · obtain ⟨c, hc', hd⟩ := ih (i + 1) (by omega)
        refine ⟨c, Ev.step (fun k => by rw [spec_MavenKnown.l0, r, w]) ?_, fun h t ht => ?_⟩
        · exact ev_pos (by omega) (ev_pos (by omega) (hb.bind (ev_pos rfl (ev_neg hc hc'))))
        · rw [List.drop_eq_getElem_cons hlt] at ht
          rcases List.mem_cons.1 ht with rfl | ht
          · exact hf rfl
          · exact hd h t ht
theorem trims_f (p v : ByteArray) (n : Bool) : ∃ b, spec_TokenTrims.f p v n = some b := by
  unfold spec_TokenTrims.f
  repeat' split
  all_goals exact ⟨_, rfl⟩
/-- What a list of tokens is, of which it is said how it compares. -/
def Tok (l : List S31) : Prop := l.length ≤ 40 ∧ ∀ t ∈ l, Seg.signed t.f1.toList = false ∧ t.f1.size ≤ 1500
theorem tok_l1 (L : List (List S31)) (l : List S31) (i : Nat) (P : Prop) (hl : l.length ≤ 40) (hnext : ∃ b, Ev (fun k => laws_tokens.l0 k L (L.length : Int) (wrap64 ((i : Int) + 1))) b ∧ (b = true → P)) (d : Nat) : ∀ j : Nat, j + d = l.length → ∃ b, Ev (fun k => laws_tokens.l1 k L (L.length : Int) (i : Int) l (l.length : Int) (j : Int)) b ∧ (b = true → P ∧ ∀ t ∈ l.drop j, t.f1.size ≤ 1500) := by
  induction d with
  | zero =>
    intro j hj
    obtain ⟨b, e, f⟩ := hnext
    refine ⟨b, Ev.step (fun k => by rw [laws_tokens.l1]) (ev_neg (by omega) e), fun h => ⟨f h, fun t ht => ?_⟩⟩
    rw [List.drop_of_length_le (by omega)] at ht
    cases ht
  | succ d ih =>
    intro j hj
    have hlt : j < l.length := by omega
    have w := wr j (by omega)
    have r := rdT l j hlt
    have sh := short_ev [l[j].f0, l[j].f1] (by simp)
    cases hb : shortB [l[j].f0, l[j].f1] with
    | false =>
      rw [hb] at sh
      refine ⟨false, Ev.step (fun k => by rw [laws_tokens.l1, r]) ?_, fun h => by cases h⟩
      exact ev_pos (by omega) (ev_pos (by omega) (ev_pos (by omega) (sh.bind (ev_neg (by simp) (Ev.now _)))))
    | true =>
      rw [hb] at sh
      obtain ⟨c, hc, hd⟩ := ih (j + 1) (by omega)
      refine ⟨c, Ev.step (fun k => by rw [laws_tokens.l1, r, w]) ?_, fun h => ⟨(hd h).1, fun t ht => ?_⟩⟩
      · exact ev_pos (by omega) (ev_pos (by omega) (ev_pos (by omega) (sh.bind (ev_pos rfl hc))))
      · rw [List.drop_eq_getElem_cons hlt] at ht
        rcases List.mem_cons.1 ht with rfl | ht
        · exact short_sizes hb _ (by simp)
        · exact (hd h).2 t ht
theorem tok_l0 (L : List (List S31)) (hL : L.length ≤ 100) (hs : ∀ l ∈ L, l.length ≤ 2147483647 ∧ ∀ t ∈ l, Sm t) (d : Nat) : ∀ i : Nat, i + d = L.length → ∃ b, Ev (fun k => laws_tokens.l0 k L (L.length : Int) (i : Int)) b ∧ (b = true → ∀ l ∈ L.drop i, Tok l) := by
  induction d with
  | zero =>
    intro i hi
    refine ⟨true, Ev.step (fun k => by rw [laws_tokens.l0]) (ev_neg (by omega) (Ev.now _)), fun _ t ht => ?_⟩
    rw [List.drop_of_length_le (by omega)] at ht
    cases ht
  | succ d ih =>
    intro i hi
    have hlt : i < L.length := by omega
    have w := wr i (by omega)
    have r := rdL L i hlt
    have hm := hs _ (List.getElem_mem hlt)
    have jt : ∃ b, Ev (fun k => laws_tokens.j1 k L[i] L (L.length : Int) (i : Int) true) b ∧ b = false := ⟨false, Ev.step (fun k => by rw [laws_tokens.j1]) (ev_pos rfl (Ev.now _)), rfl⟩
    obtain ⟨bt, et, rfl⟩ := jt
    by_cases h40 : ((L[i].length : Nat) : Int) > 40
    · refine ⟨false, Ev.step (fun k => by rw [laws_tokens.l0, r]) ?_, fun h => by cases h⟩
      exact ev_pos (by omega) (ev_pos (by omega) (ev_pos (by omega) (ev_pos h40 et)))
    · obtain ⟨b, eb, fb⟩ := mk_loop L[i] hm.1 hm.2 L[i].length 0 (by omega)
      cases b with
      | false =>
        refine ⟨false, Ev.step (fun k => by rw [laws_tokens.l0, r]) ?_, fun h => by cases h⟩
        exact ev_pos (by omega) (ev_pos (by omega) (ev_pos (by omega) (ev_neg h40 (Ev.bind (show Ev (fun k => spec_MavenKnown.f k L[i]) false from eb) (ev_neg (by simp) et)))))
      | true =>
        have nx : ∃ b, Ev (fun k => laws_tokens.l0 k L (L.length : Int) (wrap64 ((i : Int) + 1))) b ∧ (b = true → ∀ l ∈ L.drop (i + 1), Tok l) := by
          rw [w]
          exact ih (i + 1) (by omega)
        obtain ⟨c, ec, fc⟩ := tok_l1 L L[i] i _ (by omega) nx L[i].length 0 (by omega)
        have ec' : Ev (fun k => laws_tokens.l1 k L (L.length : Int) (i : Int) L[i] (L[i].length : Int) 0) c := ec
        have jf : Ev (fun k => laws_tokens.j1 k L[i] L (L.length : Int) (i : Int) false) c := by
          refine Ev.step (fun k => by rw [laws_tokens.j1]) ?_
          exact ev_neg (by simp) ec'
        have good : c = true → ∀ l ∈ L.drop i, Tok l := fun h l hl => by
          rw [List.drop_eq_getElem_cons hlt] at hl
          rcases List.mem_cons.1 hl with rfl | hl
          · exact ⟨by omega, fun t ht => ⟨fb rfl t (by simpa using ht), (fc h).2 t (by simpa using ht)⟩⟩
          · exact (fc h).1 l hl
        by_cases h1 : ((L[i].length : Nat) : Int) > 1
        · have w1 : wrap64 (((L[i].length : Nat) : Int) - 1) = ((L[i].length - 1 : Nat) : Int) := by
            exact wrp _ (by omega) (by omega)
          have r1 := rdT L[i] (L[i].length - 1) (by omega)
          obtain ⟨t, ht⟩ := trims_f (L[i][L[i].length - 1]'(by omega)).f0 (L[i][L[i].length - 1]'(by omega)).f1 (L[i][L[i].length - 1]'(by omega)).f2
          cases t with
          | true =>
            refine ⟨false, Ev.step (fun k => by rw [laws_tokens.l0, r, w1, r1, ht]) ?_, fun h => by cases h⟩
            exact ev_pos (by omega) (ev_pos (by omega) (ev_pos (by omega) (ev_neg h40 (Ev.bind (show Ev (fun k => spec_MavenKnown.f k L[i]) true from eb) (ev_pos rfl (ev_pos h1 (ev_pos (by omega) (ev_pos (by omega) (ev_some et)))))))))
          | false =>
            refine ⟨c, Ev.step (fun k => by rw [laws_tokens.l0, r, w1, r1, ht]) ?_, good⟩
            exact ev_pos (by omega) (ev_pos (by omega) (ev_pos (by omega) (ev_neg h40 (Ev.bind (show Ev (fun k => spec_MavenKnown.f k L[i]) true from eb) (ev_pos rfl (ev_pos h1 (ev_pos (by omega) (ev_pos (by omega) (ev_some jf)))))))))
        · refine ⟨c, Ev.step (fun k => by rw [laws_tokens.l0, r]) ?_, good⟩
          exact ev_pos (by omega) (ev_pos (by omega) (ev_pos (by omega) (ev_neg h40 (Ev.bind (show Ev (fun k => spec_MavenKnown.f k L[i]) true from eb) (ev_pos rfl (ev_neg h1 jf))))))
theorem tokens_ev (L : List (List S31)) (hL : L.length ≤ 100) (hs : ∀ l ∈ L, l.length ≤ 2147483647 ∧ ∀ t ∈ l, Sm t) : ∃ b, Ev (fun k => laws_tokens.f k L) b ∧ (b = true → ∀ l ∈ L, Tok l) := by
  obtain ⟨b, e, f⟩ := tok_l0 L hL hs L.length 0 (by omega)
  exact ⟨b, e, by simpa using f⟩
/-- A token in the package's own form. -/
def mvZ (t : S31) : S51 := ⟨t.f0, t.f1, t.f2⟩
def mvT (t : S31) : S60 := ⟨t.f0, t.f1, t.f2⟩
def mvU (t : S51) : S60 := ⟨t.f0, t.f1, t.f2⟩
theorem zzm_loop (l : List S51) (hl : l.length ≤ 2147483647) (d : Nat) : ∀ i : Nat, i + d = l.length → Ev (fun k => semantic_ZZMaven.l0 k l (l.length : Int) (i : Int) ((l.take i).map mvU)) (l.map mvU) := by
  induction d with
  | zero =>
    intro i hi
    refine Ev.step (fun k => by rw [semantic_ZZMaven.l0]) (ev_neg (by omega) ?_)
    rw [List.take_of_length_le (by omega)]
    exact Ev.now _
  | succ d ih =>
    intro i hi
    have hlt : i < l.length := by omega
    have w := wr i (by omega)
    have r := rdZ l i hlt
    refine Ev.step (fun k => by rw [semantic_ZZMaven.l0, r, w]) ?_
    refine ev_pos (by omega) (ev_pos (by omega) (ev_pos (by omega) ?_))
    refine ev_some (ev_pos (by simp; omega) ?_)
    have e : (l.take i).map mvU ++ [(⟨l[i].f0, l[i].f1, l[i].f2⟩ : S60)] = (l.take (i + 1)).map mvU := by
      rw [List.take_succ_eq_append_getElem hlt, List.map_append]
      rfl
    rw [e]
    exact ih (i + 1) (by omega)
theorem maven_loop (l : List S31) (hl : l.length ≤ 2147483647) (d : Nat) : ∀ i : Nat, i + d = l.length → Ev (fun k => impl_maven.l0 k ((l.take i).map mvZ) l (l.length : Int) (i : Int)) (l.map mvT) := by
  induction d with
  | zero =>
    intro i hi
    refine Ev.step (fun k => by rw [impl_maven.l0]) (ev_neg (by omega) ?_)
    rw [List.take_of_length_le (by omega)]
    have e := zzm_loop (l.map mvZ) (by simpa using hl) (l.map mvZ).length 0 (by omega)
    rw [List.map_map] at e
    exact Ev.bind (show Ev (fun k => semantic_ZZMaven.f k (l.map mvZ)) (l.map mvT) from e) (Ev.now _)
  | succ d ih =>
    intro i hi
    have hlt : i < l.length := by omega
    have w := wr i (by omega)
    have r := rdT l i hlt
    refine Ev.step (fun k => by rw [impl_maven.l0, r, w]) ?_
    refine ev_pos (by omega) (ev_pos (by omega) (ev_pos (by omega) (ev_pos (by simp; omega) ?_)))
    have e : (l.take i).map mvZ ++ [(⟨l[i].f0, l[i].f1, l[i].f2⟩ : S51)] = (l.take (i + 1)).map mvZ := by
      rw [List.take_succ_eq_append_getElem hlt, List.map_append]
      rfl
    rw [e]
    exact ih (i + 1) (by omega)
theorem maven_ev (l : List S31) (hl : l.length ≤ 2147483647) : Ev (fun k => impl_maven.f k l) (l.map mvT) := maven_loop l hl l.length 0 (by omega)
end Go.Proofs.YtkecmlpihnjjgaaDoor.Pure
