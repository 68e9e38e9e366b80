/- The statement FnMavenQualifiers: versions with one qualifier each are in the order of the qualifiers, for all numbers and qualifiers.
   No condition beyond those that the statement itself states (its card ties the listed variables to the program's text). -/
import Derived.Test.YtkecmlpihnjjgaaDoorLPmv
import Derived.Test.YtkecmlpihnjjgaaDoorLPplain
import Derived.Test.YtkecmlpihnjjgaaDoorLPdigits
import Derived.Test.YtkecmlpihnjjgaaDoorLGivMz
namespace Go.Proofs.YtkecmlpihnjjgaaDoor.Pure
open Go.RowKit Go.Proofs.YtkecmlpihnjjgaaDoor.QL Go.Proofs.YtkecmlpihnjjgaaDoorW.PrintWords Go.Proofs.YtkecmlpihnjjgaaDoorW.PrintLast Go.Proofs.YtkecmlpihnjjgaaDoor.Pk Go.Proofs.YtkecmlpihnjjgaaDoor.Giv Go.Proofs.YtkecmlpihnjjgaaDoor.Ord
set_option linter.unusedVariables false

theorem sgn (x y : Nat) (hx : x ≤ 7) (hy : y ≤ 7) : laws_sign.f (wrap64 ((x : Int) - (y : Int))) = some (if x < y then -1 else if y < x then 1 else 0) := by
  have e : wrap64 ((x : Int) - (y : Int)) = (x : Int) - (y : Int) := by unfold wrap64; omega
  rw [e]
  unfold laws_sign.f mx mn
  congr 1
  split <;> split <;> (try split) <;> omega
theorem find_same : ∀ (l : List ByteArray) (s u : ByteArray), l.findIdx (fun k => k.toList == s.toList) = l.findIdx (fun k => k.toList == u.toList) → l.findIdx (fun k => k.toList == s.toList) < l.length → s.toList = u.toList
  | [], s, u, _, h => absurd h (by simp)
  | x :: r, s, u, e, h => by
    rw [List.findIdx_cons] at e h
    rw [List.findIdx_cons] at e
    cases hs : (x.toList == s.toList) with
    | true =>
      cases hu : (x.toList == u.toList) with
      | true => exact (eq_of_beq hs).symm.trans (eq_of_beq hu)
      | false =>
        rw [hs, hu] at e
        simp at e
    | false =>
      cases hu : (x.toList == u.toList) with
      | true =>
        rw [hs, hu] at e
        simp at e
      | false =>
        rw [hs, hu] at e
        rw [hs] at h
        exact find_same r s u (by simpa using e) (by simpa using h)
theorem kw_same {a b : ByteArray} (h : kwN a = kwN b) (h7 : kwN a < 7) : a.toList = b.toList := find_same kws a b h h7
theorem less_irrefl (l : List UInt8) : Op.bytesLess l l = false := by
  rw [less_cS, cS_zero.2 rfl]
  decide
/-- The compared versions, and the signs. -/
theorem qc_of (n a b : ByteArray) (w : World) (k : Nat) (r s : Int) (hL : LaidK w) (hs : laws_sign.f (wrap64 ((kwN a : Int) - (kwN b : Int))) = some s) (hl : impl_maven.f k (XT n a) = some ((XT n a).map mvT)) (hm : impl_maven.f k (XT n b) = some ((XT n b).map mvT))
    (hcmp : ∀ (A' B' : Option Addr) (c' d' : Nat) (w' : World), Below w.heap.size w w' → Kd.C k60 w' A' 2 ((XT n a).map mvT) → Kd.C k60 w' B' 2 ((XT n b).map mvT) → Calls Tryd.prog 23 #[.agg #[.slice A' 2 c'], .agg #[.slice B' 2 d']] w' fun e w2 => e = .returned (.tuple #[.int .i64 r, .nilIface]) ∧ Below w'.heap.size w' w2) :
    QC n a b w r s (kwN a) (kwN b) where
  mc := fun w4 w7 d4 d7 hx => implM_calls k (some ⟨w4.heap.size, 0, none⟩) (some ⟨w4.heap.size + 1, 0, none⟩) 2 2 2 (XT n a) (XT n b) ((XT n a).map mvT) ((XT n b).map mvT) r w7 rfl rfl (row_x hx.1) (row_x hx.2) (Nat.le_refl _) (Nat.le_refl _) hl hm rfl rfl (fun A' B' c' d' w' h1 h2 h3 => hcmp A' B' c' d' w' (below_then d7 d7.size h1) h2 h3)
  ka := fun w' d => implKeyword_calls a w' (hL.below d)
  kb := fun w' d => implKeyword_calls b w' (hL.below d)
  sg := fun w' => laws_sign.calls _ s w' hs
theorem qc_same (n a : ByteArray) (w : World) (k : Nat) (hL : LaidK w) (hl : impl_maven.f k (XT n a) = some ((XT n a).map mvT)) : QC n a a w 0 0 (kwN a) (kwN a) := by
  refine qc_of n a a w k 0 0 hL ?_ hl hl ?_
  · rw [sgn _ _ (kwN_le a) (kwN_le a), if_neg (Nat.lt_irrefl _), if_neg (Nat.lt_irrefl _)]
  · intro A' B' c' d' w' d h1 h2
    exact mcmp_same A' B' c' d' 2 ((XT n a).map mvT) ((XT n a).map mvT) w' rfl h1 h2 (by simp) ⟨rfl, fun i x y hx hy => by
      rw [hx] at hy
      rw [← Option.some.inj hy]
      unfold tkE
      simp⟩
theorem qc_diff (n a b : ByteArray) (w : World) (k : Nat) (s : Int) (hL : LaidK w) (hl : impl_maven.f k (XT n a) = some ((XT n a).map mvT)) (hm : impl_maven.f k (XT n b) = some ((XT n b).map mvT)) (hs : laws_sign.f (wrap64 ((kwN a : Int) - (kwN b : Int))) = some s)
    (hne : ¬ a.toList = b.toList) (sa : a.size ≤ 1500) (sb : b.size ≤ 1500) (pa : Num.parse a.toList = none) (pb : Num.parse b.toList = none) : QC n a b w (sgL (tlt a b)) s (kwN a) (kwN b) := by
  refine qc_of n a b w k _ s hL hs hl hm ?_
  intro A' B' c' d' w' d h1 h2
  have hd : MDiff ((XT n a).map mvT) ((XT n b).map mvT) 1 (mvT ⟨⟨#[45]⟩, a, false⟩) (mvT ⟨⟨#[45]⟩, b, false⟩) := by
    refine ⟨rfl, by simp, rfl, rfl, ?_, ?_, rfl, by show a.size ≤ 40000; omega, by show b.size ≤ 40000; omega, pa, pb⟩
    · intro i x y hi hx hy
      obtain rfl : i = 0 := by omega
      obtain rfl := Option.some.inj hx
      obtain rfl := Option.some.inj hy
      unfold tkE
      simp
    · unfold tkE mvT
      simp [hne]
  exact mcmp_diff A' B' c' d' 2 _ _ w' rfl h1 h2 hd (hL.below d)
theorem parse_of {x : ByteArray} (h1 : Seg.signed x.toList = false) (h2 : (x.toList.all Rpm.dig && !x.toList.isEmpty) = false) : Num.parse x.toList = none := by
  rw [Seg.parse_plain h1, if_neg]
  unfold Num.digits
  intro h
  rw [Bool.and_comm] at h2
  rw [h2] at h
  cases h
theorem FnMavenQualifiers (n a b : ByteArray) (w : World) (hL : LaidK w) :
    Calls Tryd.prog 4 #[.string n, .string a, .string b] w fun e w' => e = .returned (.bool true) ∧ Below w.heap.size w w' := by
  by_cases g0 : 2147483647 < (n.size : Int)
  · exact q_big0 n a b w g0
  by_cases g1 : 2147483647 < (a.size : Int)
  · exact q_big1 n a b w g0 g1
  by_cases g2 : 2147483647 < (b.size : Int)
  · exact q_big2 n a b w g0 g1 g2
  have zn : n.toList.length < 4611686018427387904 := by rw [len_toList]; omega
  have za : a.toList.length < 4611686018427387904 := by rw [len_toList]; omega
  have zb : b.toList.length < 4611686018427387904 := by rw [len_toList]; omega
  obtain ⟨K1, e1⟩ := short_ev [n, a, b] (by simp)
  obtain ⟨K2, e2⟩ := digits_ev n.toList zn
  obtain ⟨K3, e3⟩ := plain_ev [] a.toList (by simp) za
  obtain ⟨K4, e4⟩ := plain_ev [] b.toList (by simp) zb
  obtain ⟨tk, ⟨K5, e5⟩, ht⟩ := tokens_ev [XT n a, XT n b] (by simp) (by
    intro l hl
    rcases List.mem_cons.1 hl with rfl | hl
    · exact ⟨by simp, fun t ht => by
        rcases List.mem_cons.1 ht with rfl | ht
        · exact ⟨by first | exact (by decide : (⟨#[]⟩ : ByteArray).size ≤ 2147483647) | exact (by decide : (⟨#[45]⟩ : ByteArray).size ≤ 2147483647), by show n.size ≤ _; omega⟩
        · obtain rfl := List.mem_singleton.1 ht
          exact ⟨by first | exact (by decide : (⟨#[]⟩ : ByteArray).size ≤ 2147483647) | exact (by decide : (⟨#[45]⟩ : ByteArray).size ≤ 2147483647), by show a.size ≤ _; omega⟩⟩
    · obtain rfl := List.mem_singleton.1 hl
      exact ⟨by simp, fun t ht => by
        rcases List.mem_cons.1 ht with rfl | ht
        · exact ⟨by first | exact (by decide : (⟨#[]⟩ : ByteArray).size ≤ 2147483647) | exact (by decide : (⟨#[45]⟩ : ByteArray).size ≤ 2147483647), by show n.size ≤ _; omega⟩
        · obtain rfl := List.mem_singleton.1 ht
          exact ⟨by first | exact (by decide : (⟨#[]⟩ : ByteArray).size ≤ 2147483647) | exact (by decide : (⟨#[45]⟩ : ByteArray).size ≤ 2147483647), by show b.size ≤ _; omega⟩⟩)
  obtain ⟨K6, e6⟩ := digits_ev a.toList za
  obtain ⟨K7, e7⟩ := digits_ev b.toList zb
  obtain ⟨K8, e8⟩ := maven_ev (XT n a) (by simp)
  obtain ⟨K9, e9⟩ := maven_ev (XT n b) (by simp)
  rw [← bs_of n] at e2
  rw [← bs_of a] at e3 e6
  rw [← bs_of b] at e4 e7
  obtain ⟨k, hk⟩ : ∃ k, K1 + K2 + K3 + K4 + K5 + K6 + K7 + K8 + K9 = k := ⟨_, rfl⟩
  have q : QP n a b k _ _ _ _ _ _ _ := ⟨e1 k (by omega), e2 k (by omega), e3 k (by omega), e4 k (by omega), e5 k (by omega), e6 k (by omega), e7 k (by omega)⟩
  have m8 := e8 k (by omega)
  have m9 := e9 k (by omega)
  clear e1 e2 e3 e4 e5 e6 e7 e8 e9 hk
  have PA : ∀ b : Bool, b = true → Tok (XT n a) → Seg.signed a.toList = false ∧ a.size ≤ 1500 := fun _ _ h => h.2 ⟨⟨#[45]⟩, a, false⟩ (by simp)
  have PB : Tok (XT n b) → Seg.signed b.toList = false ∧ b.size ≤ 1500 := fun h => h.2 ⟨⟨#[45]⟩, b, false⟩ (by simp)
  have TK : tk = true → (Seg.signed a.toList = false ∧ a.size ≤ 1500) ∧ (Seg.signed b.toList = false ∧ b.size ≤ 1500) := fun h => ⟨PA true rfl (ht h _ (by simp)), PB (ht h _ (by simp))⟩
  generalize shortB [n, a, b] = s at q
  generalize (n.toList.all Rpm.dig && !n.toList.isEmpty) = dn at q
  generalize plainB [] a.toList = pa at q
  generalize plainB [] b.toList = pb at q
  obtain ⟨da, hda⟩ : ∃ d, (a.toList.all Rpm.dig && !a.toList.isEmpty) = d := ⟨_, rfl⟩
  obtain ⟨db, hdb⟩ : ∃ d, (b.toList.all Rpm.dig && !b.toList.isEmpty) = d := ⟨_, rfl⟩
  rw [hda, hdb] at q
  cases s with
  | false => exact q_short n a b w g0 g1 g2 k _ _ _ _ _ _ q
  | true =>
  cases dn with
  | false => exact q_dig n a b w g0 g1 g2 k _ _ _ _ _ q
  | true =>
  by_cases z0 : 1 < (n.size : Int)
  · by_cases z1 : bt n 0 = 48
    · exact q_zero n a b w g0 g1 g2 k z0 z1 _ _ _ _ _ q
    cases pa with
    | false => exact q_pab n a b w g0 g1 g2 k z0 z1 _ _ _ _ q
    | true =>
    cases pb with
    | false => exact q_pbb n a b w g0 g1 g2 k z0 z1 _ _ _ q
    | true =>
    cases tk with
    | false => exact q_tkb n a b w g0 g1 g2 k z0 z1 _ _ q
    | true =>
    cases da with
    | true => exact q_dab n a b w g0 g1 g2 k z0 z1 _ q
    | false =>
    cases db with
    | true => exact q_dbb n a b w g0 g1 g2 k z0 z1 q
    | false =>
    obtain ⟨⟨sga, sa⟩, ⟨sgb, sb⟩⟩ := TK rfl
    have p1 := parse_of sga hda
    have p2 := parse_of sgb hdb
    by_cases hab : a.toList = b.toList
    · obtain rfl : a = b := eq_of_toList hab
      exact q_fin0b n a a w g0 g1 g2 k z0 z1 q _ _ (qc_same n a w k hL m8) (less_irrefl _) (by simp)
    · have hs := sgn (kwN a) (kwN b) (kwN_le a) (kwN_le b)
      rcases Nat.lt_trichotomy (kwN a) (kwN b) with hlt | heq | hgt
      · rw [if_pos hlt] at hs
        have c := qc_diff n a b w k _ hL m8 m9 hs hab sa sb p1 p2
        rw [show tlt a b = true by unfold tlt; rw [if_neg (by omega)]; exact decide_eq_true hlt] at c
        exact q_fin1b n a b w g0 g1 g2 k z0 z1 q _ _ c
      · rw [if_neg (by omega), if_neg (by omega)] at hs
        have h7 : ¬ kwN a < 7 := fun h => hab (kw_same heq h)
        have c := qc_diff n a b w k _ hL m8 m9 hs hab sa sb p1 p2
        have h7a : kwN a = 7 := Nat.le_antisymm (kwN_le a) (Nat.not_lt.1 h7)
        rw [show tlt a b = Op.bytesLess a.toList b.toList by unfold tlt; rw [if_pos ⟨h7a, by rw [← heq]; exact h7a⟩]] at c
        cases hb : Op.bytesLess a.toList b.toList with
        | true =>
          rw [hb] at c
          exact q_fin3b n a b w g0 g1 g2 k z0 z1 q _ _ c hb
        | false =>
          rw [hb] at c
          exact q_fin4b n a b w g0 g1 g2 k z0 z1 q _ _ c hb (by simpa using hab)
      · rw [if_neg (by omega), if_pos hgt] at hs
        have c := qc_diff n a b w k _ hL m8 m9 hs hab sa sb p1 p2
        rw [show tlt a b = false by unfold tlt; rw [if_neg (by have := kwN_le a; omega)]; exact decide_eq_false (by omega)] at c
        exact q_fin2b n a b w g0 g1 g2 k z0 z1 q _ _ c
  · cases pa with
    | false => exact q_paa n a b w g0 g1 g2 k z0 _ _ _ _ q
    | true =>
    cases pb with
    | false => exact q_pba n a b w g0 g1 g2 k z0 _ _ _ q
    | true =>
    cases tk with
    | false => exact q_tka n a b w g0 g1 g2 k z0 _ _ q
    | true =>
    cases da with
    | true => exact q_daa n a b w g0 g1 g2 k z0 _ q
    | false =>
    cases db with
    | true => exact q_dba n a b w g0 g1 g2 k z0 q
    | false =>
    obtain ⟨⟨sga, sa⟩, ⟨sgb, sb⟩⟩ := TK rfl
    have p1 := parse_of sga hda
    have p2 := parse_of sgb hdb
    by_cases hab : a.toList = b.toList
    · obtain rfl : a = b := eq_of_toList hab
      exact q_fin0a n a a w g0 g1 g2 k z0 q _ _ (qc_same n a w k hL m8) (less_irrefl _) (by simp)
    · have hs := sgn (kwN a) (kwN b) (kwN_le a) (kwN_le b)
      rcases Nat.lt_trichotomy (kwN a) (kwN b) with hlt | heq | hgt
      · rw [if_pos hlt] at hs
        have c := qc_diff n a b w k _ hL m8 m9 hs hab sa sb p1 p2
        rw [show tlt a b = true by unfold tlt; rw [if_neg (by omega)]; exact decide_eq_true hlt] at c
        exact q_fin1a n a b w g0 g1 g2 k z0 q _ _ c
      · rw [if_neg (by omega), if_neg (by omega)] at hs
        have h7 : ¬ kwN a < 7 := fun h => hab (kw_same heq h)
        have c := qc_diff n a b w k _ hL m8 m9 hs hab sa sb p1 p2
        have h7a : kwN a = 7 := Nat.le_antisymm (kwN_le a) (Nat.not_lt.1 h7)
        rw [show tlt a b = Op.bytesLess a.toList b.toList by unfold tlt; rw [if_pos ⟨h7a, by rw [← heq]; exact h7a⟩]] at c
        cases hb : Op.bytesLess a.toList b.toList with
        | true =>
          rw [hb] at c
          exact q_fin3a n a b w g0 g1 g2 k z0 q _ _ c hb
        | false =>
          rw [hb] at c
          exact q_fin4a n a b w g0 g1 g2 k z0 q _ _ c hb (by simpa using hab)
      · rw [if_neg (by omega), if_pos hgt] at hs
        have c := qc_diff n a b w k _ hL m8 m9 hs hab sa sb p1 p2
        rw [show tlt a b = false by unfold tlt; rw [if_neg (by have := kwN_le a; omega)]; exact decide_eq_false (by omega)] at c
        exact q_fin2a n a b w g0 g1 g2 k z0 q _ _ c
end Go.Proofs.YtkecmlpihnjjgaaDoor.Pure
