/- What the walk of compareRedHatComponents' runs wants: runes of a run, two builders and an iterator. -/
import Derived.Test.YtehlakaccgccbaaDoorGivB
import Derived.Test.YtehlakaccgccbaaDoorGivC
import Derived.Test.YtehlakaccgccbaaDoorGivO
import Derived.Test.YtehlakaccgccbaaDoorRpm
import Derived.Test.YtehlakaccgccbaaDoorGivQ0
namespace Go.Proofs.YtehlakaccgccbaaDoor.Giv
open Go.RowKit Go.Proofs.YtehlakaccgccbaaDoor.Ord
set_option linter.unusedSimpArgs false
set_option linter.unusedVariables false

theorem ext_list (a : ByteArray) (p : Nat) : (a.extract p a.size).toList = a.toList.drop p := by
  rw [toList_eq', toList_eq']
  have h : (a.extract p a.size).data.toList = (a.data.toList.drop p).take (a.size - p) := by simp [ByteArray.data_extract]
  rw [h]
  exact List.take_of_length_le (by simp)
theorem ext_size (a : ByteArray) (p : Nat) : (a.extract p a.size).size = a.size - p := by rw [ByteArray.size_extract]; omega
theorem ext_get (a : ByteArray) (p n : Nat) (h : n < (a.extract p a.size).size) : (a.toList.drop p)[n]? = some ((a.extract p a.size)[n]'h) := by
  rw [← ext_list, List.getElem?_eq_getElem (by rw [len_toList]; exact h), getElem_toList _ n h]
theorem run_next (a : ByteArray) (p n : Nat) (h : n < (a.extract p a.size).size) : (a.toList.drop p).take (n + 1) = (a.toList.drop p).take n ++ [(a.extract p a.size)[n]'h] := by
  rw [← ext_list]
  exact take_next' _ n h
theorem takeWhile_at (a : ByteArray) (p n : Nat) {f : UInt8 → Bool} (h : n < (a.extract p a.size).size) (hall : ((a.toList.drop p).take n).all f = true) (hno : f ((a.extract p a.size)[n]'h) = false) : (a.toList.drop p).takeWhile f = (a.toList.drop p).take n := by
  have e : a.toList.drop p = (a.toList.drop p).take n ++ ((a.extract p a.size)[n]'h :: (a.toList.drop p).drop (n + 1)) := by
    rw [← ext_list]
    rw [← drop_at _ n h, List.take_append_drop]
  conv => lhs; rw [e]
  rw [List.takeWhile_append_of_pos (by simpa using hall), List.takeWhile_cons_of_neg (by simp [hno]), List.append_nil]
theorem takeWhile_end (a : ByteArray) (p n : Nat) {f : UInt8 → Bool} (h : ¬ n < (a.extract p a.size).size) (hall : ((a.toList.drop p).take n).all f = true) : (a.toList.drop p).takeWhile f = (a.toList.drop p).take n := by
  have z := ext_size a p
  have e : (a.toList.drop p).take n = a.toList.drop p := List.take_of_length_le (by rw [List.length_drop, len_toList]; omega)
  rw [e] at hall ⊢
  have := List.takeWhile_append_of_pos (p := f) (l₁ := a.toList.drop p) (l₂ := []) (by simpa using hall)
  simpa using this

/-- Two fresh builders and an iterator behind them. -/
theorem two_builders {w0 : World} (w : World) (s : ByteArray) (hs : w0.heap.size ≤ w.heap.size) (hb : Below w0.heap.size w0 w) :
    BV w.heap.size (w.heap.size + 3) (.slice none 0 0) [] (((w.alloc (.cells #[.pointer none, .slice none 0 0] 58)).alloc (.cells #[.pointer none, .slice none 0 0] 58)).alloc (.stringIter s 0)) ∧
    BV (w.heap.size + 1) (w.heap.size + 3) (.slice none 0 0) [] (((w.alloc (.cells #[.pointer none, .slice none 0 0] 58)).alloc (.cells #[.pointer none, .slice none 0 0] 58)).alloc (.stringIter s 0)) ∧
    (((w.alloc (.cells #[.pointer none, .slice none 0 0] 58)).alloc (.cells #[.pointer none, .slice none 0 0] 58)).alloc (.stringIter s 0)).heap[w.heap.size + 2]? = some (.stringIter s 0) ∧
    Below w0.heap.size w0 (((w.alloc (.cells #[.pointer none, .slice none 0 0] 58)).alloc (.cells #[.pointer none, .slice none 0 0] 58)).alloc (.stringIter s 0)) ∧
    w.heap.size + 3 ≤ (((w.alloc (.cells #[.pointer none, .slice none 0 0] 58)).alloc (.cells #[.pointer none, .slice none 0 0] 58)).alloc (.stringIter s 0)).heap.size := by
  have no : ∀ k : Nat, (Value.slice none 0 0).ownBlock = some k → ¬ False := fun _ _ h => h
  have z1 : (w.alloc (.cells #[.pointer none, .slice none 0 0] 58)).heap.size = w.heap.size + 1 := by simp
  have b1 := BV.fresh w (w.heap.size + 3)
  have b2 := BV.fresh (w.alloc (.cells #[.pointer none, .slice none 0 0] 58)) (w.heap.size + 3)
  rw [z1] at b2
  refine ⟨(b1.kept (Fr.new _ _) (fun h => h) no).kept (Fr.new _ _) (fun h => h) no, b2.kept (Fr.new _ _) (fun h => h) no, ?_, ?_, by simp⟩
  · have := heap_alloc_new ((w.alloc (.cells #[.pointer none, .slice none 0 0] 58)).alloc (.cells #[.pointer none, .slice none 0 0] 58)) (.stringIter s 0)
    simpa using this
  · exact ((hb.alloc hs _).alloc (by simp; omega) _).alloc (by simp; omega) _
/-- The results behind names. -/
theorem string_ex (b base : Nat) (v : Value) (l : List UInt8) (w : World) (h : BV b base v (Lib.byteCells l) w) (h0 : l ≠ []) :
    Calls Tryd.prog 35 #[.pointer (some ⟨b, 0, none⟩)] w fun e w' => ∃ r : ByteArray, e = .returned (.string r) ∧ r.toList = l ∧ Fr (BS b v) w w' :=
  (string_calls b base v l w h h0).mono fun e w' ⟨he, hf⟩ => ⟨_, he, by rw [toList_eq'], hf⟩
theorem len_ex (b base : Nat) (v : Value) (l : List UInt8) (w : World) (h : BV b base v (Lib.byteCells l) w) :
    Calls Tryd.prog 34 #[.pointer (some ⟨b, 0, none⟩)] w fun e w' => ∃ n : Nat, e = .returned (.int .i64 n) ∧ n = l.length ∧ w = w' :=
  (len_calls b base v _ w h).mono fun e w' ⟨he, hw⟩ => ⟨_, he, Lib.byteCells_length l, hw⟩
theorem takeWhile_ne (a : ByteArray) (p : Nat) (h : p < a.size) {f : UInt8 → Bool} (hf : f (a[p]'h) = true) : (a.toList.drop p).takeWhile f ≠ [] := by
  rw [drop_at a p h, List.takeWhile_cons_of_pos hf]
  simp
theorem takeWhile_no (a : ByteArray) (p : Nat) (h : p < a.size) {f : UInt8 → Bool} (hf : f (a[p]'h) = false) : (a.toList.drop p).takeWhile f = [] := by
  rw [drop_at a p h, List.takeWhile_cons_of_neg (by simp [hf])]
theorem num_lt {ta tb : ByteArray} {x y : List UInt8} (ha : ta.toList = Rpm.strip0 x) (hb : tb.toList = Rpm.strip0 y) (h : ta.size < tb.size) : Rpm.numC x y = -1 := by
  have : cI (Rpm.strip0 x).length (Rpm.strip0 y).length = -1 := by rw [← ha, ← hb, len_toList, len_toList, cI_neg]; omega
  unfold Rpm.numC
  rw [this]
  rfl
theorem num_gt {ta tb : ByteArray} {x y : List UInt8} (ha : ta.toList = Rpm.strip0 x) (hb : tb.toList = Rpm.strip0 y) (h : tb.size < ta.size) : Rpm.numC x y = 1 := by
  have : cI (Rpm.strip0 x).length (Rpm.strip0 y).length = 1 := by rw [← ha, ← hb, len_toList, len_toList, cI_pos]; omega
  unfold Rpm.numC
  rw [this]
  rfl
theorem num_eq {ta tb : ByteArray} {x y : List UInt8} (ha : ta.toList = Rpm.strip0 x) (hb : tb.toList = Rpm.strip0 y) (h : ta.size ≤ tb.size) (h' : tb.size ≤ ta.size) : Rpm.numC x y = cS ta.toList tb.toList := by
  have : cI (Rpm.strip0 x).length (Rpm.strip0 y).length = 0 := by rw [← ha, ← hb, len_toList, len_toList, cI_zero]; omega
  unfold Rpm.numC
  rw [this, ha, hb]
  rfl
theorem strip_le (l : List UInt8) : (Rpm.strip0 l).length ≤ l.length := List.Sublist.length_le (List.dropWhile_sublist _)
theorem rpm_num (k : Nat) (a b : List UInt8) (h1 : Rpm.mark (Rpm.skip a) = 3) (h2 : Rpm.mark (Rpm.skip b) = 3) : Rpm.rpm (k + 1) a b = if Rpm.numC ((Rpm.skip a).takeWhile Rpm.dig) ((Rpm.skip b).takeWhile Rpm.dig) = 0 then Rpm.rpm k ((Rpm.skip a).dropWhile Rpm.dig) ((Rpm.skip b).dropWhile Rpm.dig) else Rpm.numC ((Rpm.skip a).takeWhile Rpm.dig) ((Rpm.skip b).takeWhile Rpm.dig) := by
  simp only [Rpm.rpm]
  rw [if_pos (by rw [h1, h2]), if_neg (by rw [h1]; decide), if_neg (by rw [h1]; decide), if_pos h1]
theorem rpm_let (k : Nat) (a b : List UInt8) (h1 : Rpm.mark (Rpm.skip a) = 2) (h2 : Rpm.mark (Rpm.skip b) = 2) : Rpm.rpm (k + 1) a b = if cS ((Rpm.skip a).takeWhile Rpm.let_) ((Rpm.skip b).takeWhile Rpm.let_) = 0 then Rpm.rpm k ((Rpm.skip a).dropWhile Rpm.let_) ((Rpm.skip b).dropWhile Rpm.let_) else cS ((Rpm.skip a).takeWhile Rpm.let_) ((Rpm.skip b).takeWhile Rpm.let_) := by
  simp only [Rpm.rpm]
  rw [if_pos (by rw [h1, h2]), if_neg (by rw [h1]; decide), if_neg (by rw [h1]; decide), if_neg (by rw [h1]; decide)]
theorem asc0 : asc ⟨#[48]⟩ := by
  intro i h
  have : i = 0 := by
    have h' : i < 1 := h
    omega
  subst this
  show (48 : UInt8).toNat < 128
  decide
theorem inB0 (c : UInt8) : inB ⟨#[48]⟩ c = (c.toNat == 48) := by
  have e : (⟨#[48]⟩ : ByteArray).toList = [48] := by rw [toList_eq']
  unfold inB inSet
  rw [e]
  simp only [List.any_cons, List.any_nil, Bool.or_false]
  rw [Bool.eq_iff_iff, beq_iff_eq, beq_iff_eq]
  show ((48 : Nat) : Int) = (c.toNat : Int) ↔ _
  omega
theorem strip_eq (l : List UInt8) : l.dropWhile (inB ⟨#[48]⟩) = Rpm.strip0 l := by
  unfold Rpm.strip0
  congr 1
  funext c
  exact inB0 c
theorem trim0_ex (s : ByteArray) (w : World) (hs : s.size ≤ 140737488351232) :
    Calls Tryd.prog 36 #[.string s, .string ⟨#[48]⟩] w fun e w' => ∃ r : ByteArray, e = .returned (.string r) ∧ r.toList = Rpm.strip0 s.toList ∧ Below w.heap.size w w' :=
  (trimLeft_calls s ⟨#[48]⟩ w asc0 (by decide) hs).mono fun e w' ⟨he, hb⟩ => ⟨_, he, by rw [toList_eq', strip_eq], hb⟩
theorem compare_ex (a b : ByteArray) (w : World) :
    Calls Tryd.prog 37 #[.string a, .string b] w fun e w' => ∃ d : Int, e = .returned (.int .i64 d) ∧ d = cS a.toList b.toList ∧ w = w' :=
  (Tryd.strings_Compare a b w).mono fun e w' ⟨he, hw⟩ => ⟨_, he, by rw [toList_eq', toList_eq', compare_cS], hw.symm⟩
theorem dropWhile_len (f : UInt8 → Bool) : ∀ m : List UInt8, m.dropWhile f = m.drop (m.takeWhile f).length
  | [] => rfl
  | c :: r => by
    by_cases h : f c = true
    · rw [List.dropWhile_cons_of_pos h, List.takeWhile_cons_of_pos h, List.length_cons, List.drop_succ_cons]
      exact dropWhile_len f r
    · rw [List.dropWhile_cons_of_neg h, List.takeWhile_cons_of_neg h]
      rfl
theorem dropWhile_drop (f : UInt8 → Bool) (l : List UInt8) (p : Nat) : (l.drop p).dropWhile f = l.drop (p + ((l.drop p).takeWhile f).length) := by
  rw [dropWhile_len, List.drop_drop]
theorem BV.rebase {b base base' : Nat} {w : World} (h : BV b base (.slice none 0 0) [] w) : BV b base' (.slice none 0 0) [] w := ⟨h.1, World.ownsRowF_nil _ _ _ _⟩
/-- How a text goes on at a place where nothing is to be left out. -/
theorem side (s : ByteArray) (p : Nat) (hp : p ≤ s.size) {l : List UInt8} (h : Rpm.skip l = s.toList.drop p) :
    (p = s.size ∧ Rpm.mark (s.toList.drop p) = 0) ∨ (∃ h : p < s.size, (s[p]'h).toNat = 126 ∧ Rpm.mark (s.toList.drop p) = -1) ∨ (∃ h : p < s.size, (s[p]'h).toNat = 94 ∧ Rpm.mark (s.toList.drop p) = 1) ∨
    (∃ h : p < s.size, Rpm.dig (s[p]'h) = true ∧ (s[p]'h).toNat ≠ 126 ∧ (s[p]'h).toNat ≠ 94 ∧ Rpm.mark (s.toList.drop p) = 3) ∨
    (∃ h : p < s.size, Rpm.dig (s[p]'h) = false ∧ (s[p]'h).toNat ≠ 126 ∧ (s[p]'h).toNat ≠ 94 ∧ Rpm.let_ (s[p]'h) = true ∧ Rpm.mark (s.toList.drop p) = 2) := by
  by_cases hlt : p < s.size
  · have e := drop_at s p hlt
    rw [e] at h ⊢
    by_cases h1 : (s[p]'hlt).toNat = 126
    · exact .inr (.inl ⟨hlt, h1, by simp [Rpm.mark, h1]⟩)
    · by_cases h2 : (s[p]'hlt).toNat = 94
      · exact .inr (.inr (.inl ⟨hlt, h2, by simp [Rpm.mark, h2]⟩))
      · by_cases h3 : Rpm.dig (s[p]'hlt) = true
        · exact .inr (.inr (.inr (.inl ⟨hlt, h3, h1, h2, by simp [Rpm.mark, h1, h2, h3]⟩)))
        · have h3' : Rpm.dig (s[p]'hlt) = false := by simpa using h3
          have hm : Rpm.mark (s[p]'hlt :: s.toList.drop (p + 1)) = 2 := by simp [Rpm.mark, h1, h2, h3']
          exact .inr (.inr (.inr (.inr ⟨hlt, h3', h1, h2, (Rpm.mark_let h hm).1, hm⟩)))
  · have : p = s.size := by omega
    refine .inl ⟨this, ?_⟩
    rw [List.drop_of_length_le (by rw [len_toList]; omega)]
    rfl
theorem rpm_end (k : Nat) (a b : List UInt8) (h1 : Rpm.mark (Rpm.skip a) = 0) (h2 : Rpm.mark (Rpm.skip b) = 0) : Rpm.rpm (k + 1) a b = 0 := by
  simp [Rpm.rpm, h1, h2]
theorem rpm_ne (k : Nat) (a b : List UInt8) (h : Rpm.mark (Rpm.skip a) ≠ Rpm.mark (Rpm.skip b)) : Rpm.rpm (k + 1) a b = cI (Rpm.mark (Rpm.skip a)) (Rpm.mark (Rpm.skip b)) := by
  simp only [Rpm.rpm]
  rw [if_neg h]
theorem rpm_mark (k : Nat) (a b : List UInt8) (m : Int) (h1 : Rpm.mark (Rpm.skip a) = m) (h2 : Rpm.mark (Rpm.skip b) = m) (h0 : m ≠ 0) (hm : m < 2) : Rpm.rpm (k + 1) a b = Rpm.rpm k (Rpm.skip a).tail (Rpm.skip b).tail := by
  simp only [Rpm.rpm]
  rw [if_pos (by rw [h1, h2]), if_neg (by rw [h1]; exact h0), if_pos (by rw [h1]; exact hm)]
theorem side2 (s : ByteArray) (p : Nat) (hp : p ≤ s.size) {l : List UInt8} (h : Rpm.skip l = s.toList.drop p) :
    (p = s.size ∧ Rpm.mark (s.toList.drop p) = 0) ∨ (∃ h : p < s.size, (s[p]'h).toNat = 126 ∧ Rpm.mark (s.toList.drop p) = -1) ∨ (∃ h : p < s.size, (s[p]'h).toNat = 94 ∧ Rpm.mark (s.toList.drop p) = 1) ∨
    (∃ h : p < s.size, (s[p]'h).toNat ≠ 126 ∧ (s[p]'h).toNat ≠ 94 ∧ ((Rpm.dig (s[p]'h) = true ∧ Rpm.let_ (s[p]'h) = false ∧ Rpm.mark (s.toList.drop p) = 3) ∨ (Rpm.dig (s[p]'h) = false ∧ Rpm.let_ (s[p]'h) = true ∧ Rpm.mark (s.toList.drop p) = 2))) := by
  rcases side s p hp h with h | h | h | ⟨h, d, c1, c2, m⟩ | ⟨h, d, c1, c2, x, m⟩
  · exact .inl h
  · exact .inr (.inl h)
  · exact .inr (.inr (.inl h))
  · refine .inr (.inr (.inr ⟨h, c1, c2, .inl ⟨d, ?_, m⟩⟩))
    unfold Rpm.dig at d
    unfold Rpm.let_
    simp only [decide_eq_true_eq, decide_eq_false_iff_not] at d ⊢
    omega
  · exact .inr (.inr (.inr ⟨h, c1, c2, .inr ⟨d, x, m⟩⟩))
theorem ne_bool {a b : Int} (h : a ≠ b) : (a == b) = false := beq_eq_false_iff_ne.2 h
theorem eq_bool {a b : Int} (h : a = b) : (a == b) = true := beq_iff_eq.2 h

end Go.Proofs.YtehlakaccgccbaaDoor.Giv
