/- Several texts of this claim in one. Put together by wip/tool/merge.py. -/
import Derived.Test.YtnbpoplomdocjaaGreatDoorZK
import Derived.Test.YtnbpoplomdocjaaGreatDoorZD
import Derived.Test.YtnbpoplomdocjaaGreatDoorZA
import Derived.Outline
import Derived.Deep.DeepCutAuto
import Derived.Deep.LoopGhost
import Derived.Deep.CutBlock
/- What the walk of compareRedHatComponents' runs wants: runes of a run, two builders and an iterator. -/
namespace Go.Proofs.YtnbpoplomdocjaaGreatDoor.Giv
open Go.RowKit Go.Proofs.YtnbpoplomdocjaaGreatDoor.Ord
set_option linter.unusedSimpArgs false
set_option linter.unusedVariables false

theorem ext_list (a : ByteArray) (p : Nat) : (a.extract p a.size).toList = a.toList.drop p := by
  rw [toList_eq', toList_eq']
  have h : (a.extract p a.size).data.toList = (a.data.toList.drop p).take (a.size - p) := by simp [ByteArray.data_extract]
  rw [h]
  exact List.take_of_length_le (by simp)
theorem ext_size (a : ByteArray) (p : Nat) : (a.extract p a.size).size = a.size - p := by rw [ByteArray.size_extract]; omega
theorem run_next (a : ByteArray) (p n : Nat) (h : n < (a.extract p a.size).size) : (a.toList.drop p).take (n + 1) = (a.toList.drop p).take n ++ [(a.extract p a.size)[n]'h] := by
  rw [← ext_list]
  exact take_next' _ n h
theorem takeWhile_at (a : ByteArray) (p n : Nat) {f : UInt8 → Bool} (h : n < (a.extract p a.size).size) (hall : ((a.toList.drop p).take n).all f = true) (hno : f ((a.extract p a.size)[n]'h) = false) : (a.toList.drop p).takeWhile f = (a.toList.drop p).take n := by
  have e : a.toList.drop p = (a.toList.drop p).take n ++ ((a.extract p a.size)[n]'h :: (a.toList.drop p).drop (n + 1)) := by
    rw [← ext_list]
    rw [← drop_at _ n h, List.take_append_drop]
  conv => lhs; rw [e]
  rw [List.takeWhile_append_of_pos (by simpa using hall), List.takeWhile_cons_of_neg (by simp [hno]), List.append_nil]
theorem takeWhile_end (a : ByteArray) (p n : Nat) {f : UInt8 → Bool} (h : ¬ n < (a.extract p a.size).size) (hall : ((a.toList.drop p).take n).all f = true) : (a.toList.drop p).takeWhile f = (a.toList.drop p).take n := by
  have z := ext_size a p
  have e : (a.toList.drop p).take n = a.toList.drop p := List.take_of_length_le (by rw [List.length_drop, len_toList]; omega)
  rw [e] at hall ⊢
  have := List.takeWhile_append_of_pos (p := f) (l₁ := a.toList.drop p) (l₂ := []) (by simpa using hall)
  simpa using this

/-- Two fresh builders and an iterator behind them. -/
theorem two_builders {w0 : World} (w : World) (s : ByteArray) (hs : w0.heap.size ≤ w.heap.size) (hb : Below w0.heap.size w0 w) :
    BV w.heap.size (w.heap.size + 3) (.slice none 0 0) [] (((w.alloc (.cells #[.pointer none, .slice none 0 0] 125)).alloc (.cells #[.pointer none, .slice none 0 0] 125)).alloc (.stringIter s 0)) ∧
    BV (w.heap.size + 1) (w.heap.size + 3) (.slice none 0 0) [] (((w.alloc (.cells #[.pointer none, .slice none 0 0] 125)).alloc (.cells #[.pointer none, .slice none 0 0] 125)).alloc (.stringIter s 0)) ∧
    (((w.alloc (.cells #[.pointer none, .slice none 0 0] 125)).alloc (.cells #[.pointer none, .slice none 0 0] 125)).alloc (.stringIter s 0)).heap[w.heap.size + 2]? = some (.stringIter s 0) ∧
    Below w0.heap.size w0 (((w.alloc (.cells #[.pointer none, .slice none 0 0] 125)).alloc (.cells #[.pointer none, .slice none 0 0] 125)).alloc (.stringIter s 0)) ∧
    w.heap.size + 3 ≤ (((w.alloc (.cells #[.pointer none, .slice none 0 0] 125)).alloc (.cells #[.pointer none, .slice none 0 0] 125)).alloc (.stringIter s 0)).heap.size := by
  have no : ∀ k : Nat, (Value.slice none 0 0).ownBlock = some k → ¬ False := fun _ _ h => h
  have z1 : (w.alloc (.cells #[.pointer none, .slice none 0 0] 125)).heap.size = w.heap.size + 1 := by simp
  have b1 := BV.fresh w (w.heap.size + 3)
  have b2 := BV.fresh (w.alloc (.cells #[.pointer none, .slice none 0 0] 125)) (w.heap.size + 3)
  rw [z1] at b2
  refine ⟨(b1.kept (Fr.new _ _) (fun h => h) no).kept (Fr.new _ _) (fun h => h) no, b2.kept (Fr.new _ _) (fun h => h) no, ?_, ?_, by simp⟩
  · have := heap_alloc_new ((w.alloc (.cells #[.pointer none, .slice none 0 0] 125)).alloc (.cells #[.pointer none, .slice none 0 0] 125)) (.stringIter s 0)
    simpa using this
  · exact ((hb.alloc hs _).alloc (by simp; omega) _).alloc (by simp; omega) _
/-- The results behind names. -/
theorem string_ex (b base : Nat) (v : Value) (l : List UInt8) (w : World) (h : BV b base v (Lib.byteCells l) w) (h0 : l ≠ []) :
    Calls Tryz.prog 89 #[.pointer (some ⟨b, 0, none⟩)] w fun e w' => ∃ r : ByteArray, e = .returned (.string r) ∧ r.toList = l ∧ Fr (BS b v) w w' :=
  (string_calls b base v l w h h0).mono fun e w' ⟨he, hf⟩ => ⟨_, he, by rw [toList_eq'], hf⟩
theorem len_ex (b base : Nat) (v : Value) (l : List UInt8) (w : World) (h : BV b base v (Lib.byteCells l) w) :
    Calls Tryz.prog 109 #[.pointer (some ⟨b, 0, none⟩)] w fun e w' => ∃ n : Nat, e = .returned (.int .i64 n) ∧ n = l.length ∧ w = w' :=
  (len_calls b base v _ w h).mono fun e w' ⟨he, hw⟩ => ⟨_, he, Lib.byteCells_length l, hw⟩
theorem takeWhile_ne (a : ByteArray) (p : Nat) (h : p < a.size) {f : UInt8 → Bool} (hf : f (a[p]'h) = true) : (a.toList.drop p).takeWhile f ≠ [] := by
  rw [drop_at a p h, List.takeWhile_cons_of_pos hf]
  simp
theorem takeWhile_no (a : ByteArray) (p : Nat) (h : p < a.size) {f : UInt8 → Bool} (hf : f (a[p]'h) = false) : (a.toList.drop p).takeWhile f = [] := by
  rw [drop_at a p h, List.takeWhile_cons_of_neg (by simp [hf])]
theorem num_lt {ta tb : ByteArray} {x y : List UInt8} (ha : ta.toList = Rpm.strip0 x) (hb : tb.toList = Rpm.strip0 y) (h : ta.size < tb.size) : Rpm.numC x y = -1 := by
  have : cI (Rpm.strip0 x).length (Rpm.strip0 y).length = -1 := by rw [← ha, ← hb, len_toList, len_toList, cI_neg]; omega
  unfold Rpm.numC
  rw [this]
  rfl
theorem num_gt {ta tb : ByteArray} {x y : List UInt8} (ha : ta.toList = Rpm.strip0 x) (hb : tb.toList = Rpm.strip0 y) (h : tb.size < ta.size) : Rpm.numC x y = 1 := by
  have : cI (Rpm.strip0 x).length (Rpm.strip0 y).length = 1 := by rw [← ha, ← hb, len_toList, len_toList, cI_pos]; omega
  unfold Rpm.numC
  rw [this]
  rfl
theorem num_eq {ta tb : ByteArray} {x y : List UInt8} (ha : ta.toList = Rpm.strip0 x) (hb : tb.toList = Rpm.strip0 y) (h : ta.size ≤ tb.size) (h' : tb.size ≤ ta.size) : Rpm.numC x y = cS ta.toList tb.toList := by
  have : cI (Rpm.strip0 x).length (Rpm.strip0 y).length = 0 := by rw [← ha, ← hb, len_toList, len_toList, cI_zero]; omega
  unfold Rpm.numC
  rw [this, ha, hb]
  rfl
theorem rpm_num (k : Nat) (a b : List UInt8) (h1 : Rpm.mark (Rpm.skip a) = 3) (h2 : Rpm.mark (Rpm.skip b) = 3) : Rpm.rpm (k + 1) a b = if Rpm.numC ((Rpm.skip a).takeWhile Rpm.dig) ((Rpm.skip b).takeWhile Rpm.dig) = 0 then Rpm.rpm k ((Rpm.skip a).dropWhile Rpm.dig) ((Rpm.skip b).dropWhile Rpm.dig) else Rpm.numC ((Rpm.skip a).takeWhile Rpm.dig) ((Rpm.skip b).takeWhile Rpm.dig) := by
  simp only [Rpm.rpm]
  rw [if_pos (by rw [h1, h2]), if_neg (by rw [h1]; decide), if_neg (by rw [h1]; decide), if_pos h1]
theorem rpm_let (k : Nat) (a b : List UInt8) (h1 : Rpm.mark (Rpm.skip a) = 2) (h2 : Rpm.mark (Rpm.skip b) = 2) : Rpm.rpm (k + 1) a b = if cS ((Rpm.skip a).takeWhile Rpm.let_) ((Rpm.skip b).takeWhile Rpm.let_) = 0 then Rpm.rpm k ((Rpm.skip a).dropWhile Rpm.let_) ((Rpm.skip b).dropWhile Rpm.let_) else cS ((Rpm.skip a).takeWhile Rpm.let_) ((Rpm.skip b).takeWhile Rpm.let_) := by
  simp only [Rpm.rpm]
  rw [if_pos (by rw [h1, h2]), if_neg (by rw [h1]; decide), if_neg (by rw [h1]; decide), if_neg (by rw [h1]; decide)]
theorem asc0 : asc ⟨#[48]⟩ := by
  intro i h
  have : i = 0 := by
    have h' : i < 1 := h
    omega
  subst this
  show (48 : UInt8).toNat < 128
  decide
theorem inB0 (c : UInt8) : inB ⟨#[48]⟩ c = (c.toNat == 48) := by
  have e : (⟨#[48]⟩ : ByteArray).toList = [48] := by rw [toList_eq']
  unfold inB inSet
  rw [e]
  simp only [List.any_cons, List.any_nil, Bool.or_false]
  rw [Bool.eq_iff_iff, beq_iff_eq, beq_iff_eq]
  show ((48 : Nat) : Int) = (c.toNat : Int) ↔ _
  omega
theorem strip_eq (l : List UInt8) : l.dropWhile (inB ⟨#[48]⟩) = Rpm.strip0 l := by
  unfold Rpm.strip0
  congr 1
  funext c
  exact inB0 c
theorem trim0_ex (s : ByteArray) (w : World) (hs : s.size ≤ 140737488351232) :
    Calls Tryz.prog 110 #[.string s, .string ⟨#[48]⟩] w fun e w' => ∃ r : ByteArray, e = .returned (.string r) ∧ r.toList = Rpm.strip0 s.toList ∧ Below w.heap.size w w' :=
  (trimLeft_calls s ⟨#[48]⟩ w asc0 (by decide) hs).mono fun e w' ⟨he, hb⟩ => ⟨_, he, by rw [toList_eq', strip_eq], hb⟩
theorem compare_ex (a b : ByteArray) (w : World) :
    Calls Tryz.prog 111 #[.string a, .string b] w fun e w' => ∃ d : Int, e = .returned (.int .i64 d) ∧ d = cS a.toList b.toList ∧ w = w' :=
  (Tryz.strings_Compare a b w).mono fun e w' ⟨he, hw⟩ => ⟨_, he, by rw [toList_eq', toList_eq', compare_cS], hw.symm⟩
theorem dropWhile_len (f : UInt8 → Bool) : ∀ m : List UInt8, m.dropWhile f = m.drop (m.takeWhile f).length
  | [] => rfl
  | c :: r => by
    by_cases h : f c = true
    · rw [List.dropWhile_cons_of_pos h, List.takeWhile_cons_of_pos h, List.length_cons, List.drop_succ_cons]
      exact dropWhile_len f r
    · rw [List.dropWhile_cons_of_neg h, List.takeWhile_cons_of_neg h]
      rfl
theorem dropWhile_drop (f : UInt8 → Bool) (l : List UInt8) (p : Nat) : (l.drop p).dropWhile f = l.drop (p + ((l.drop p).takeWhile f).length) := by
  rw [dropWhile_len, List.drop_drop]
theorem BV.rebase {b base base' : Nat} {w : World} (h : BV b base (.slice none 0 0) [] w) : BV b base' (.slice none 0 0) [] w := ⟨h.1, World.ownsRowF_nil _ _ _ _⟩
/-- How a text goes on at a place where nothing is to be left out. -/
theorem side (s : ByteArray) (p : Nat) (hp : p ≤ s.size) {l : List UInt8} (h : Rpm.skip l = s.toList.drop p) :
    (p = s.size ∧ Rpm.mark (s.toList.drop p) = 0) ∨ (∃ h : p < s.size, (s[p]'h).toNat = 126 ∧ Rpm.mark (s.toList.drop p) = -1) ∨ (∃ h : p < s.size, (s[p]'h).toNat = 94 ∧ Rpm.mark (s.toList.drop p) = 1) ∨
    (∃ h : p < s.size, Rpm.dig (s[p]'h) = true ∧ (s[p]'h).toNat ≠ 126 ∧ (s[p]'h).toNat ≠ 94 ∧ Rpm.mark (s.toList.drop p) = 3) ∨
    (∃ h : p < s.size, Rpm.dig (s[p]'h) = false ∧ (s[p]'h).toNat ≠ 126 ∧ (s[p]'h).toNat ≠ 94 ∧ Rpm.let_ (s[p]'h) = true ∧ Rpm.mark (s.toList.drop p) = 2) := by
  by_cases hlt : p < s.size
  · have e := drop_at s p hlt
    rw [e] at h ⊢
    by_cases h1 : (s[p]'hlt).toNat = 126
    · exact .inr (.inl ⟨hlt, h1, by simp [Rpm.mark, h1]⟩)
    · by_cases h2 : (s[p]'hlt).toNat = 94
      · exact .inr (.inr (.inl ⟨hlt, h2, by simp [Rpm.mark, h2]⟩))
      · by_cases h3 : Rpm.dig (s[p]'hlt) = true
        · exact .inr (.inr (.inr (.inl ⟨hlt, h3, h1, h2, by simp [Rpm.mark, h1, h2, h3]⟩)))
        · have h3' : Rpm.dig (s[p]'hlt) = false := by simpa using h3
          have hm : Rpm.mark (s[p]'hlt :: s.toList.drop (p + 1)) = 2 := by simp [Rpm.mark, h1, h2, h3']
          exact .inr (.inr (.inr (.inr ⟨hlt, h3', h1, h2, (Rpm.mark_let h hm).1, hm⟩)))
  · have : p = s.size := by omega
    refine .inl ⟨this, ?_⟩
    rw [List.drop_of_length_le (by rw [len_toList]; omega)]
    rfl
theorem rpm_end (k : Nat) (a b : List UInt8) (h1 : Rpm.mark (Rpm.skip a) = 0) (h2 : Rpm.mark (Rpm.skip b) = 0) : Rpm.rpm (k + 1) a b = 0 := by
  simp [Rpm.rpm, h1, h2]
theorem rpm_ne (k : Nat) (a b : List UInt8) (h : Rpm.mark (Rpm.skip a) ≠ Rpm.mark (Rpm.skip b)) : Rpm.rpm (k + 1) a b = cI (Rpm.mark (Rpm.skip a)) (Rpm.mark (Rpm.skip b)) := by
  simp only [Rpm.rpm]
  rw [if_neg h]
theorem rpm_mark (k : Nat) (a b : List UInt8) (m : Int) (h1 : Rpm.mark (Rpm.skip a) = m) (h2 : Rpm.mark (Rpm.skip b) = m) (h0 : m ≠ 0) (hm : m < 2) : Rpm.rpm (k + 1) a b = Rpm.rpm k (Rpm.skip a).tail (Rpm.skip b).tail := by
  simp only [Rpm.rpm]
  rw [if_pos (by rw [h1, h2]), if_neg (by rw [h1]; exact h0), if_pos (by rw [h1]; exact hm)]
theorem side2 (s : ByteArray) (p : Nat) (hp : p ≤ s.size) {l : List UInt8} (h : Rpm.skip l = s.toList.drop p) :
    (p = s.size ∧ Rpm.mark (s.toList.drop p) = 0) ∨ (∃ h : p < s.size, (s[p]'h).toNat = 126 ∧ Rpm.mark (s.toList.drop p) = -1) ∨ (∃ h : p < s.size, (s[p]'h).toNat = 94 ∧ Rpm.mark (s.toList.drop p) = 1) ∨
    (∃ h : p < s.size, (s[p]'h).toNat ≠ 126 ∧ (s[p]'h).toNat ≠ 94 ∧ ((Rpm.dig (s[p]'h) = true ∧ Rpm.let_ (s[p]'h) = false ∧ Rpm.mark (s.toList.drop p) = 3) ∨ (Rpm.dig (s[p]'h) = false ∧ Rpm.let_ (s[p]'h) = true ∧ Rpm.mark (s.toList.drop p) = 2))) := by
  rcases side s p hp h with h | h | h | ⟨h, d, c1, c2, m⟩ | ⟨h, d, c1, c2, x, m⟩
  · exact .inl h
  · exact .inr (.inl h)
  · exact .inr (.inr (.inl h))
  · refine .inr (.inr (.inr ⟨h, c1, c2, .inl ⟨d, ?_, m⟩⟩))
    unfold Rpm.dig at d
    unfold Rpm.let_
    simp only [decide_eq_true_eq, decide_eq_false_iff_not] at d ⊢
    omega
  · exact .inr (.inr (.inr ⟨h, c1, c2, .inr ⟨d, x, m⟩⟩))
theorem ne_bool {a b : Int} (h : a ≠ b) : (a == b) = false := beq_eq_false_iff_ne.2 h
theorem eq_bool {a b : Int} (h : a = b) : (a == b) = true := beq_iff_eq.2 h

end Go.Proofs.YtnbpoplomdocjaaGreatDoor.Giv
/- Contract by hand: compareRedHatComponents. -/
namespace Go.Proofs.YtnbpoplomdocjaaGreatDoor.Giv
open Go.RowKit Go.Proofs.YtnbpoplomdocjaaGreatDoor.Ord
set_option linter.unusedSimpArgs false
set_option linter.unusedVariables false

/-- A byte of a text, by its place. -/
theorem isDig_calls (c : UInt8) (w : World) : Calls Tryz.prog 80 #[.int .i32 (c.toNat : Int)] w fun e w' => e = .returned (.bool (Rpm.dig c)) ∧ w = w' := by
  by_cases h1 : (48 : Int) ≤ (c.toNat : Int)
  · by_cases h2 : (c.toNat : Int) ≤ 57
    · go_enter Tryz.func80, Tryz.ntmps80
      go_wp2
      go_ret
      exact ⟨by rw [show Rpm.dig c = true by unfold Rpm.dig; simp; omega]; simp [h2], rfl⟩
    · go_enter Tryz.func80, Tryz.ntmps80
      go_wp2
      go_ret
      exact ⟨by rw [show Rpm.dig c = false by unfold Rpm.dig; simp; omega]; simp [h2], rfl⟩
  · go_enter Tryz.func80, Tryz.ntmps80
    go_wp2
    go_ret
    exact ⟨by rw [show Rpm.dig c = false by unfold Rpm.dig; simp; omega]; simp [h1], rfl⟩

theorem letI_eq (c : UInt8) : letI_ (c.toNat : Int) = Rpm.let_ c := by
  unfold letI_ Rpm.let_
  rw [Bool.eq_iff_iff]
  simp only [decide_eq_true_eq]
  omega
theorem digI_eq (c : UInt8) : digI (c.toNat : Int) = Rpm.dig c := by
  unfold digI Rpm.dig
  rw [Bool.eq_iff_iff]
  simp only [decide_eq_true_eq]
  omega
theorem sbt_calls (c : UInt8) (w : World) : Calls Tryz.prog 107 #[.int .i32 (c.toNat : Int)] w fun e w' => e = .returned (.bool (Rpm.sep c)) ∧ w = w' := by
  obtain ⟨r, hr⟩ : ∃ r, r = Rpm.sep c := ⟨_, rfl⟩
  rw [← hr]
  have HR := Lib.hid hr
  clear hr
  have e1 := letI_eq c
  have e2 := digI_eq c
  rcases hl : Rpm.let_ c with _ | _
  · rcases hd : Rpm.dig c with _ | _
    · rw [hl] at e1
      rw [hd] at e2
      by_cases h1 : (c.toNat : Int) = 126
      · have HE : Hid (r = false) := Lib.hid (by rw [HR.out]; unfold Rpm.sep; rw [hl, hd]; simp; omega)
        have b1 : ((c.toNat : Int) == 126) = true := eq_bool h1
        have b2 : ((c.toNat : Int) != 126) = false := by rw [bne, b1]; rfl
        clear h1 hl hd
        go_enter Tryz.func107, Tryz.ntmps107
        go_wp2_with (first | (go_at_call 108; refine (runeLet_calls _ _).mono ?_; rintro e w' ⟨rfl, rfl⟩) | (go_at_call 80; refine (runeDig_calls _ _).mono ?_; rintro e w' ⟨rfl, rfl⟩))
        go_ret
        exact ⟨by rw [HE.out]; rfl, rfl⟩
      · have b1 : ((c.toNat : Int) == 126) = false := ne_bool h1
        have b2 : ((c.toNat : Int) != 126) = true := by rw [bne, b1]; rfl
        by_cases h2 : (c.toNat : Int) = 94
        · have HE : Hid (r = false) := Lib.hid (by rw [HR.out]; unfold Rpm.sep; rw [hl, hd]; simp; omega)
          have b3 : ((c.toNat : Int) == 94) = true := eq_bool h2
          have b4 : ((c.toNat : Int) != 94) = false := by rw [bne, b3]; rfl
          clear h1 h2 hl hd
          go_enter Tryz.func107, Tryz.ntmps107
          go_wp2_with (first | (go_at_call 108; refine (runeLet_calls _ _).mono ?_; rintro e w' ⟨rfl, rfl⟩) | (go_at_call 80; refine (runeDig_calls _ _).mono ?_; rintro e w' ⟨rfl, rfl⟩))
          go_ret
          exact ⟨by rw [HE.out]; rfl, rfl⟩
        · have HE : Hid (r = true) := Lib.hid (by rw [HR.out]; unfold Rpm.sep; rw [hl, hd]; simp; omega)
          have b3 : ((c.toNat : Int) == 94) = false := ne_bool h2
          have b4 : ((c.toNat : Int) != 94) = true := by rw [bne, b3]; rfl
          clear h1 h2 hl hd
          go_enter Tryz.func107, Tryz.ntmps107
          go_wp2_with (first | (go_at_call 108; refine (runeLet_calls _ _).mono ?_; rintro e w' ⟨rfl, rfl⟩) | (go_at_call 80; refine (runeDig_calls _ _).mono ?_; rintro e w' ⟨rfl, rfl⟩))
          go_ret
          exact ⟨by rw [HE.out]; rfl, rfl⟩
    · rw [hl] at e1
      rw [hd] at e2
      have HE : Hid (r = false) := Lib.hid (by rw [HR.out]; unfold Rpm.sep; rw [hl, hd]; rfl)
      clear hl hd
      go_enter Tryz.func107, Tryz.ntmps107
      go_wp2_with (first | (go_at_call 108; refine (runeLet_calls _ _).mono ?_; rintro e w' ⟨rfl, rfl⟩) | (go_at_call 80; refine (runeDig_calls _ _).mono ?_; rintro e w' ⟨rfl, rfl⟩))
      go_ret
      exact ⟨by rw [HE.out]; rfl, rfl⟩
  · rw [hl] at e1
    have HE : Hid (r = false) := Lib.hid (by rw [HR.out]; unfold Rpm.sep; rw [hl]; rfl)
    clear hl e2
    go_enter Tryz.func107, Tryz.ntmps107
    go_wp2_with (first | (go_at_call 108; refine (runeLet_calls _ _).mono ?_; rintro e w' ⟨rfl, rfl⟩) | (go_at_call 80; refine (runeDig_calls _ _).mono ?_; rintro e w' ⟨rfl, rfl⟩))
    go_ret
    exact ⟨by rw [HE.out]; rfl, rfl⟩

theorem w32_byte (c : UInt8) : wrap32 (c.toNat : Int) = (c.toNat : Int) := by
  have := c.toNat_lt
  unfold wrap32
  omega
theorem sbtW_calls (c : UInt8) (w : World) : Calls Tryz.prog 107 #[.int .i32 (wrap32 (c.toNat : Int))] w fun e w' => e = .returned (.bool (Rpm.sep c)) ∧ w = w' := by
  rw [w32_byte]
  exact sbt_calls c w
theorem isDigW_calls (c : UInt8) (w : World) : Calls Tryz.prog 80 #[.int .i32 (wrap32 (c.toNat : Int))] w fun e w' => e = .returned (.bool (Rpm.dig c)) ∧ w = w' := by
  rw [w32_byte]
  exact isDig_calls c w
theorem skip_yes (a : ByteArray) (p : Nat) (h : p < a.size) (hs : Rpm.sep (a[p]'h) = true) : Rpm.skip (a.toList.drop p) = Rpm.skip (a.toList.drop (p + 1)) := by
  rw [drop_at a p h]
  exact List.dropWhile_cons_of_pos hs
theorem skip_no (a : ByteArray) (p : Nat) (h : p < a.size) (hs : Rpm.sep (a[p]'h) = false) : Rpm.skip (a.toList.drop p) = a.toList.drop p := by
  rw [drop_at a p h]
  exact List.dropWhile_cons_of_neg (by simp [hs])
theorem skip_end (a : ByteArray) (p : Nat) (h : ¬ p < a.size) : Rpm.skip (a.toList.drop p) = a.toList.drop p := by
  rw [List.drop_of_length_le (by rw [len_toList]; omega)]
  rfl
set_option maxHeartbeats 8000000 in
set_option maxRecDepth 100000 in
theorem rpm_calls (a b : ByteArray) (w : World) (ha : a.size ≤ 2147483647) (hb : b.size ≤ 2147483647) (hA : a.toList.isEmpty = false) (hB : b.toList.isEmpty = false) :
    Calls Tryz.prog 81 #[.string a, .string b] w fun e w' => e = .returned (.int .i64 (Rpm.rpm (a.toList.length + b.toList.length + 1) a.toList b.toList)) ∧ Below w.heap.size w w' := by
  obtain ⟨R, hR⟩ : ∃ R, R = Rpm.rpm (a.toList.length + b.toList.length + 1) a.toList b.toList := ⟨_, rfl⟩
  rw [← hR]
  have HR := Lib.hid hR
  clear hR
  go_enter Tryz.func81, Tryz.ntmps81
  go_wp2_with fail
  go_loopg [5, 6] (a.toList.length + b.toList.length + 1) (fun kf v5 v6 wr => ∃ (i j : Nat), v5 = .int .i64 i ∧ v6 = .int .i64 j ∧ i ≤ a.size ∧ j ≤ b.size ∧ Hid (R = Rpm.rpm kf (a.toList.drop i) (b.toList.drop j)) ∧ (a.size - i) + (b.size - j) < kf ∧ Below w.heap.size w wr)
  case atStart =>
    exact ⟨0, 0, rfl, rfl, Nat.zero_le _, Nat.zero_le _, HR, by simp only [len_toList]; omega, Below.refl _ _⟩
  case round =>
    obtain ⟨i, j, rfl, rfl, hi, hj, HRk, hkf, hbw⟩ := hrel
    go_upto_block 2 with fail
    go_cut [5] (fun v5 wc => ∃ p : Nat, v5 = .int .i64 p ∧ i ≤ p ∧ p ≤ a.size ∧ Hid (Rpm.skip (a.toList.drop i) = a.toList.drop p) ∧ wc = wr)
    case first =>
      go_wp2_with fail
      go_loop [5] (fun v5 => ∃ p : Nat, v5 = .int .i64 p ∧ i ≤ p ∧ p ≤ a.size ∧ Hid (Rpm.skip (a.toList.drop i) = Rpm.skip (a.toList.drop p))) (fun v5 => a.size - (intOf v5).toNat)
      case atStart => exact ⟨i, rfl, Nat.le_refl _, hi, rfl⟩
      case round =>
        obtain ⟨p, rfl, hip, hp, HSp⟩ := hrel
        by_cases hpa : p < a.size
        · by_cases hs : Rpm.sep (a[p]'hpa) = true
          · have HN : Hid (Rpm.skip (a.toList.drop i) = Rpm.skip (a.toList.drop (p + 1))) := Lib.hid (HSp.out.trans (skip_yes a p hpa hs))
            go_wp2_with (go_at_call 107; refine (sbtW_calls _ _).mono ?_; rintro e w' ⟨rfl, rfl⟩)
            go_round
            case rel => exact ⟨p + 1, by go_num, by omega, by omega, HN⟩
            case measure => simp [intOf]; omega
          · have hs' : Rpm.sep (a[p]'hpa) = false := by simpa using hs
            have HN : Hid (Rpm.skip (a.toList.drop i) = a.toList.drop p) := Lib.hid (HSp.out.trans (skip_no a p hpa hs'))
            go_wp2_with (go_at_call 107; refine (sbtW_calls _ _).mono ?_; rintro e w' ⟨rfl, rfl⟩)
            go_meet
            case rel => exact ⟨p, rfl, hip, hp, HN, rfl⟩
        · have HN : Hid (Rpm.skip (a.toList.drop i) = a.toList.drop p) := Lib.hid (HSp.out.trans (skip_end a p hpa))
          go_wp2_with fail
          go_meet
          case rel => exact ⟨p, rfl, hip, hp, HN, rfl⟩
    case rest =>
      obtain ⟨p, rfl, hip, hp, HSa, rfl⟩ := hcut
      go_upto_block 4 with fail
      go_cut [6] (fun v6 wc2 => ∃ q : Nat, v6 = .int .i64 q ∧ j ≤ q ∧ q ≤ b.size ∧ Hid (Rpm.skip (b.toList.drop j) = b.toList.drop q) ∧ wc2 = wc)
      case first =>
        go_wp2_with fail
        go_loop [6] (fun v6 => ∃ q : Nat, v6 = .int .i64 q ∧ j ≤ q ∧ q ≤ b.size ∧ Hid (Rpm.skip (b.toList.drop j) = Rpm.skip (b.toList.drop q))) (fun v6 => b.size - (intOf v6).toNat)
        case atStart => exact ⟨j, rfl, Nat.le_refl _, hj, rfl⟩
        case round =>
          obtain ⟨q, rfl, hjq, hq, HSq⟩ := hrel
          by_cases hqb : q < b.size
          · by_cases hs : Rpm.sep (b[q]'hqb) = true
            · have HN : Hid (Rpm.skip (b.toList.drop j) = Rpm.skip (b.toList.drop (q + 1))) := Lib.hid (HSq.out.trans (skip_yes b q hqb hs))
              go_wp2_with (go_at_call 107; refine (sbtW_calls _ _).mono ?_; rintro e w' ⟨rfl, rfl⟩)
              go_round
              case rel => exact ⟨q + 1, by go_num, by omega, by omega, HN⟩
              case measure => simp [intOf]; omega
            · have hs' : Rpm.sep (b[q]'hqb) = false := by simpa using hs
              have HN : Hid (Rpm.skip (b.toList.drop j) = b.toList.drop q) := Lib.hid (HSq.out.trans (skip_no b q hqb hs'))
              go_wp2_with (go_at_call 107; refine (sbtW_calls _ _).mono ?_; rintro e w' ⟨rfl, rfl⟩)
              go_meet
              case rel => exact ⟨q, rfl, hjq, hq, HN, rfl⟩
          · have HN : Hid (Rpm.skip (b.toList.drop j) = b.toList.drop q) := Lib.hid (HSq.out.trans (skip_end b q hqb))
            go_wp2_with fail
            go_meet
            case rel => exact ⟨q, rfl, hjq, hq, HN, rfl⟩
      case rest =>
        obtain ⟨q, rfl, hjq, hq, HSb, rfl⟩ := hcut
        obtain ⟨k, rfl⟩ : ∃ k, gk = k + 1 := ⟨gk - 1, by omega⟩
        rcases side a p hp HSa.out with ⟨ea, ma⟩ | ⟨la, ca, ma⟩ | ⟨la, ca, ma⟩ | ⟨la, da, ca1, ca2, ma⟩ | ⟨la, da, ca1, ca2, xa, ma⟩
        · rcases side b q hq HSb.out with ⟨eb, mb⟩ | ⟨lb, cb, mb⟩ | ⟨lb, cb, mb⟩ | ⟨lb, db, cb1, cb2, mb⟩ | ⟨lb, db, cb1, cb2, xb, mb⟩
          · have HE : Hid (R = 0) := Lib.hid (by rw [HRk.out, rpm_end _ _ _ (HSa.out ▸ ma) (HSb.out ▸ mb)])
            clear ma mb
            subst ea
            subst eb
            go_wp2_with fail
            go_ret
            exact ⟨by rw [HE.out]; rfl, hbw⟩
          · have HE : Hid (R = 1) := Lib.hid (by rw [HRk.out, rpm_ne _ _ _ (by rw [HSa.out, HSb.out, ma, mb]; decide), HSa.out, HSb.out, ma, mb]; rfl)
            have fb1 : (((b[q]'lb).toNat : Int) == 126) = true := eq_bool (by omega)
            clear ma mb cb
            subst ea
            go_wp2_with fail
            go_ret
            exact ⟨by rw [HE.out]; rfl, hbw⟩
          · have HE : Hid (R = (-1)) := Lib.hid (by rw [HRk.out, rpm_ne _ _ _ (by rw [HSa.out, HSb.out, ma, mb]; decide), HSa.out, HSb.out, ma, mb]; rfl)
            have fb1 : (((b[q]'lb).toNat : Int) == 126) = false := ne_bool (by omega)
            have fb2 : (((b[q]'lb).toNat : Int) == 94) = true := eq_bool (by omega)
            clear ma mb cb
            subst ea
            go_wp2_with fail
            go_ret
            exact ⟨by rw [HE.out]; rfl, hbw⟩
          · have HE : Hid (R = (-1)) := Lib.hid (by rw [HRk.out, rpm_ne _ _ _ (by rw [HSa.out, HSb.out, ma, mb]; decide), HSa.out, HSb.out, ma, mb]; rfl)
            have fb1 : (((b[q]'lb).toNat : Int) == 126) = false := ne_bool (by omega)
            have fb2 : (((b[q]'lb).toNat : Int) == 94) = false := ne_bool (by omega)
            clear ma mb db cb1 cb2
            subst ea
            go_wp2_with fail
            go_ret
            exact ⟨by rw [HE.out]; rfl, hbw⟩
          · have HE : Hid (R = (-1)) := Lib.hid (by rw [HRk.out, rpm_ne _ _ _ (by rw [HSa.out, HSb.out, ma, mb]; decide), HSa.out, HSb.out, ma, mb]; rfl)
            have fb1 : (((b[q]'lb).toNat : Int) == 126) = false := ne_bool (by omega)
            have fb2 : (((b[q]'lb).toNat : Int) == 94) = false := ne_bool (by omega)
            clear ma mb db cb1 cb2 xb
            subst ea
            go_wp2_with fail
            go_ret
            exact ⟨by rw [HE.out]; rfl, hbw⟩
        · rcases side b q hq HSb.out with ⟨eb, mb⟩ | ⟨lb, cb, mb⟩ | ⟨lb, cb, mb⟩ | ⟨lb, db, cb1, cb2, mb⟩ | ⟨lb, db, cb1, cb2, xb, mb⟩
          · have HE : Hid (R = (-1)) := Lib.hid (by rw [HRk.out, rpm_ne _ _ _ (by rw [HSa.out, HSb.out, ma, mb]; decide), HSa.out, HSb.out, ma, mb]; rfl)
            have fa1 : (((a[p]'la).toNat : Int) == 126) = true := eq_bool (by omega)
            clear ma mb ca
            subst eb
            go_wp2_with fail
            go_ret
            exact ⟨by rw [HE.out]; rfl, hbw⟩
          · have HE : Hid (R = Rpm.rpm k (a.toList.drop (p + 1)) (b.toList.drop (q + 1))) := Lib.hid (by rw [HRk.out, rpm_mark _ _ _ (-1) (HSa.out ▸ ma) (HSb.out ▸ mb) (by decide) (by decide), HSa.out, HSb.out, List.tail_drop, List.tail_drop])
            have fa1 : (((a[p]'la).toNat : Int) == 126) = true := eq_bool (by omega)
            have fb1 : (((b[q]'lb).toNat : Int) == 126) = true := eq_bool (by omega)
            clear ma mb ca cb
            go_wp2_with fail
            go_roundg k
            case measure => omega
            case rel => exact ⟨p + 1, q + 1, by go_num, by go_num, by omega, by omega, HE, by omega, hbw⟩
          · have HE : Hid (R = (-1)) := Lib.hid (by rw [HRk.out, rpm_ne _ _ _ (by rw [HSa.out, HSb.out, ma, mb]; decide), HSa.out, HSb.out, ma, mb]; rfl)
            have fa1 : (((a[p]'la).toNat : Int) == 126) = true := eq_bool (by omega)
            have fb1 : (((b[q]'lb).toNat : Int) == 126) = false := ne_bool (by omega)
            have fb2 : (((b[q]'lb).toNat : Int) == 94) = true := eq_bool (by omega)
            clear ma mb ca cb
            go_wp2_with fail
            go_ret
            exact ⟨by rw [HE.out]; rfl, hbw⟩
          · have HE : Hid (R = (-1)) := Lib.hid (by rw [HRk.out, rpm_ne _ _ _ (by rw [HSa.out, HSb.out, ma, mb]; decide), HSa.out, HSb.out, ma, mb]; rfl)
            have fa1 : (((a[p]'la).toNat : Int) == 126) = true := eq_bool (by omega)
            have fb1 : (((b[q]'lb).toNat : Int) == 126) = false := ne_bool (by omega)
            have fb2 : (((b[q]'lb).toNat : Int) == 94) = false := ne_bool (by omega)
            clear ma mb ca db cb1 cb2
            go_wp2_with fail
            go_ret
            exact ⟨by rw [HE.out]; rfl, hbw⟩
          · have HE : Hid (R = (-1)) := Lib.hid (by rw [HRk.out, rpm_ne _ _ _ (by rw [HSa.out, HSb.out, ma, mb]; decide), HSa.out, HSb.out, ma, mb]; rfl)
            have fa1 : (((a[p]'la).toNat : Int) == 126) = true := eq_bool (by omega)
            have fb1 : (((b[q]'lb).toNat : Int) == 126) = false := ne_bool (by omega)
            have fb2 : (((b[q]'lb).toNat : Int) == 94) = false := ne_bool (by omega)
            clear ma mb ca db cb1 cb2 xb
            go_wp2_with fail
            go_ret
            exact ⟨by rw [HE.out]; rfl, hbw⟩
        · rcases side b q hq HSb.out with ⟨eb, mb⟩ | ⟨lb, cb, mb⟩ | ⟨lb, cb, mb⟩ | ⟨lb, db, cb1, cb2, mb⟩ | ⟨lb, db, cb1, cb2, xb, mb⟩
          · have HE : Hid (R = 1) := Lib.hid (by rw [HRk.out, rpm_ne _ _ _ (by rw [HSa.out, HSb.out, ma, mb]; decide), HSa.out, HSb.out, ma, mb]; rfl)
            have fa1 : (((a[p]'la).toNat : Int) == 126) = false := ne_bool (by omega)
            have fa2 : (((a[p]'la).toNat : Int) == 94) = true := eq_bool (by omega)
            clear ma mb ca
            subst eb
            go_wp2_with fail
            go_ret
            exact ⟨by rw [HE.out]; rfl, hbw⟩
          · have HE : Hid (R = 1) := Lib.hid (by rw [HRk.out, rpm_ne _ _ _ (by rw [HSa.out, HSb.out, ma, mb]; decide), HSa.out, HSb.out, ma, mb]; rfl)
            have fa1 : (((a[p]'la).toNat : Int) == 126) = false := ne_bool (by omega)
            have fa2 : (((a[p]'la).toNat : Int) == 94) = true := eq_bool (by omega)
            have fb1 : (((b[q]'lb).toNat : Int) == 126) = true := eq_bool (by omega)
            clear ma mb ca cb
            go_wp2_with fail
            go_ret
            exact ⟨by rw [HE.out]; rfl, hbw⟩
          · have HE : Hid (R = Rpm.rpm k (a.toList.drop (p + 1)) (b.toList.drop (q + 1))) := Lib.hid (by rw [HRk.out, rpm_mark _ _ _ (1) (HSa.out ▸ ma) (HSb.out ▸ mb) (by decide) (by decide), HSa.out, HSb.out, List.tail_drop, List.tail_drop])
            have fa1 : (((a[p]'la).toNat : Int) == 126) = false := ne_bool (by omega)
            have fa2 : (((a[p]'la).toNat : Int) == 94) = true := eq_bool (by omega)
            have fb1 : (((b[q]'lb).toNat : Int) == 126) = false := ne_bool (by omega)
            have fb2 : (((b[q]'lb).toNat : Int) == 94) = true := eq_bool (by omega)
            clear ma mb ca cb
            go_wp2_with fail
            go_roundg k
            case measure => omega
            case rel => exact ⟨p + 1, q + 1, by go_num, by go_num, by omega, by omega, HE, by omega, hbw⟩
          · have HE : Hid (R = (-1)) := Lib.hid (by rw [HRk.out, rpm_ne _ _ _ (by rw [HSa.out, HSb.out, ma, mb]; decide), HSa.out, HSb.out, ma, mb]; rfl)
            have fa1 : (((a[p]'la).toNat : Int) == 126) = false := ne_bool (by omega)
            have fa2 : (((a[p]'la).toNat : Int) == 94) = true := eq_bool (by omega)
            have fb1 : (((b[q]'lb).toNat : Int) == 126) = false := ne_bool (by omega)
            have fb2 : (((b[q]'lb).toNat : Int) == 94) = false := ne_bool (by omega)
            clear ma mb ca db cb1 cb2
            go_wp2_with fail
            go_ret
            exact ⟨by rw [HE.out]; rfl, hbw⟩
          · have HE : Hid (R = (-1)) := Lib.hid (by rw [HRk.out, rpm_ne _ _ _ (by rw [HSa.out, HSb.out, ma, mb]; decide), HSa.out, HSb.out, ma, mb]; rfl)
            have fa1 : (((a[p]'la).toNat : Int) == 126) = false := ne_bool (by omega)
            have fa2 : (((a[p]'la).toNat : Int) == 94) = true := eq_bool (by omega)
            have fb1 : (((b[q]'lb).toNat : Int) == 126) = false := ne_bool (by omega)
            have fb2 : (((b[q]'lb).toNat : Int) == 94) = false := ne_bool (by omega)
            clear ma mb ca db cb1 cb2 xb
            go_wp2_with fail
            go_ret
            exact ⟨by rw [HE.out]; rfl, hbw⟩
        · rcases side2 b q hq HSb.out with ⟨eb, mb⟩ | ⟨lb, cb, mb⟩ | ⟨lb, cb, mb⟩ | ⟨lb, cb1, cb2, hyb⟩
          · have HE : Hid (R = 1) := Lib.hid (by rw [HRk.out, rpm_ne _ _ _ (by rw [HSa.out, HSb.out, ma, mb]; decide), HSa.out, HSb.out, ma, mb]; rfl)
            have fa1 : (((a[p]'la).toNat : Int) == 126) = false := ne_bool (by omega)
            have fa2 : (((a[p]'la).toNat : Int) == 94) = false := ne_bool (by omega)
            clear ma mb da ca1 ca2
            subst eb
            go_wp2_with fail
            go_ret
            exact ⟨by rw [HE.out]; rfl, hbw⟩
          · have HE : Hid (R = 1) := Lib.hid (by rw [HRk.out, rpm_ne _ _ _ (by rw [HSa.out, HSb.out, ma, mb]; decide), HSa.out, HSb.out, ma, mb]; rfl)
            have fa1 : (((a[p]'la).toNat : Int) == 126) = false := ne_bool (by omega)
            have fa2 : (((a[p]'la).toNat : Int) == 94) = false := ne_bool (by omega)
            have fb1 : (((b[q]'lb).toNat : Int) == 126) = true := eq_bool (by omega)
            clear ma mb da ca1 ca2 cb
            go_wp2_with fail
            go_ret
            exact ⟨by rw [HE.out]; rfl, hbw⟩
          · have HE : Hid (R = 1) := Lib.hid (by rw [HRk.out, rpm_ne _ _ _ (by rw [HSa.out, HSb.out, ma, mb]; decide), HSa.out, HSb.out, ma, mb]; rfl)
            have fa1 : (((a[p]'la).toNat : Int) == 126) = false := ne_bool (by omega)
            have fa2 : (((a[p]'la).toNat : Int) == 94) = false := ne_bool (by omega)
            have fb1 : (((b[q]'lb).toNat : Int) == 126) = false := ne_bool (by omega)
            have fb2 : (((b[q]'lb).toNat : Int) == 94) = true := eq_bool (by omega)
            clear ma mb da ca1 ca2 cb
            go_wp2_with fail
            go_ret
            exact ⟨by rw [HE.out]; rfl, hbw⟩
          · have fa1 : (((a[p]'la).toNat : Int) == 126) = false := ne_bool (by omega)
            have fa2 : (((a[p]'la).toNat : Int) == 94) = false := ne_bool (by omega)
            have fb1 : (((b[q]'lb).toNat : Int) == 126) = false := ne_bool (by omega)
            have fb2 : (((b[q]'lb).toNat : Int) == 94) = false := ne_bool (by omega)
            have ga : ((p : Int) == (a.size : Int)) = false := ne_bool (by omega)
            have gb : ((q : Int) == (b.size : Int)) = false := ne_bool (by omega)
            have hyes : Rpm.dig (b[q]'lb) = true → R = if Rpm.numC ((a.toList.drop p).takeWhile Rpm.dig) ((b.toList.drop q).takeWhile Rpm.dig) = 0 then Rpm.rpm k (a.toList.drop (p + ((a.toList.drop p).takeWhile Rpm.dig).length)) (b.toList.drop (q + ((b.toList.drop q).takeWhile Rpm.dig).length)) else Rpm.numC ((a.toList.drop p).takeWhile Rpm.dig) ((b.toList.drop q).takeWhile Rpm.dig) := by
              intro hpb
              have mb : Rpm.mark (b.toList.drop q) = 3 := by
                rcases hyb with ⟨h1, h2, h3⟩ | ⟨h1, h2, h3⟩
                · exact h3
                · rw [h1] at hpb; exact absurd hpb (by simp)
              rw [HRk.out, rpm_num _ _ _ (HSa.out ▸ ma) (HSb.out ▸ mb), HSa.out, HSb.out, dropWhile_drop, dropWhile_drop]
            have hno : Rpm.dig (b[q]'lb) = false → R = 1 := by
              intro hpb
              have mb : Rpm.mark (b.toList.drop q) = 2 := by
                rcases hyb with ⟨h1, h2, h3⟩ | ⟨h1, h2, h3⟩
                · rw [h1] at hpb; exact absurd hpb (by simp)
                · exact h3
              rw [HRk.out, rpm_ne _ _ _ (by rw [HSa.out, HSb.out, ma, mb]; decide), HSa.out, HSb.out, ma, mb]
              rfl
            have pa : Rpm.dig (a[p]'la) = true := da
            clear hyb ma ca1 ca2 cb1 cb2
            go_upto_block 6 with (first | (go_at_call 80; refine (isDigW_calls _ _).mono ?_; rintro e w' ⟨rfl, rfl⟩))
            obtain ⟨wb, rfl⟩ : ∃ wb : World, wb = wc := ⟨_, rfl⟩
            go_cut [5] (fun v5 wd => ∃ v13 : Value, v5 = .int .i64 ((p + ((a.toList.drop p).takeWhile Rpm.dig).length : Nat)) ∧ BV wb.heap.size (wb.heap.size + 3) v13 (Lib.byteCells ((a.toList.drop p).takeWhile Rpm.dig)) wd ∧ BV (wb.heap.size + 1) (wb.heap.size + 3) (.slice none 0 0) [] wd ∧ Below w.heap.size w wd ∧ wb.heap.size + 3 ≤ wd.heap.size)
            case first =>
              go_wp2_with fail
              go_loopw [5] (fun v5 wd => ∃ (n : Nat) (v13 : Value), v5 = .int .i64 ((p + n : Nat)) ∧ n ≤ a.size - p ∧ wd.heap[wb.heap.size + 2]? = some (.stringIter (a.extract p a.size) n) ∧ BV wb.heap.size (wb.heap.size + 3) v13 (Lib.byteCells ((a.toList.drop p).take n)) wd ∧ BV (wb.heap.size + 1) (wb.heap.size + 3) (.slice none 0 0) [] wd ∧ Below w.heap.size w wd ∧ wb.heap.size + 3 ≤ wd.heap.size ∧ Hid (((a.toList.drop p).take n).all Rpm.dig = true)) (fun _ wd => (a.extract p a.size).size - wd.iterPos (wb.heap.size + 2))
              case atStart =>
                obtain ⟨t1, t2, t3, t4, t5⟩ := two_builders wb (a.extract p a.size) hbw.size hbw
                exact ⟨0, .slice none 0 0, by go_num, Nat.zero_le _, t3, t1, t2, t4, t5, rfl⟩
              case round =>
                obtain ⟨n, v13, rfl, hn, hit, hb13, hb14, hbd, hsz, HAll⟩ := hrel
                have hxz := ext_size a p
                by_cases hlt : n < (a.extract p a.size).size
                · have hnx : ∀ ty, (Instr.next (.pointer (some ⟨wb.heap.size + 2, 0, none⟩)) true ty).run Tryz.prog wr = _ := fun ty => Lib.run_next_any_at wr (wb.heap.size + 2) (a.extract p a.size) n ty hit hlt
                  have hit2 := Lib.iterAt_heap wr (wb.heap.size + 2) (a.extract p a.size) n (n + (Utf8.decode (a.extract p a.size) n).2) hit
                  have hfi := Fr.iterAt wr (wb.heap.size + 2) (a.extract p a.size) (n + (Utf8.decode (a.extract p a.size) n).2)
                  have hb13' := hb13.kept hfi (by omega) (fun k hk => by have := (hb13.2.lt k hk).1; omega)
                  have hb14' := hb14.kept hfi (by omega) (fun k hk => by simp [Value.ownBlock] at hk)
                  have hbd2 := Lib.below_iterAt hbd (k := wb.heap.size + 2) (by have := hbw.size; omega) (a.extract p a.size) (n + (Utf8.decode (a.extract p a.size) n).2)
                  have hsz2 : wb.heap.size + 3 ≤ (wr.iterAt (wb.heap.size + 2) (a.extract p a.size) (n + (Utf8.decode (a.extract p a.size) n).2)).heap.size := by rw [Lib.iterAt_size]; exact hsz
                  by_cases hd : digI ((Utf8.decode (a.extract p a.size) n).1 : Int) = true
                  · have hy := digI_yes (a.extract p a.size) n hlt hd
                    have HD := Lib.hid hy.1
                    have HN := Lib.hid (run_next a p n hlt)
                    have HP := Lib.hid hy.2
                    clear hy
                    have hdl := decode_le (a.extract p a.size) n
                    have hlen : (Lib.byteCells ((a.toList.drop p).take n)).length + 4 ≤ 140737488355328 := by rw [Lib.byteCells_length, List.length_take]; omega
                    go_wp2_with (first | (go_at_call 80; refine (runeDig_calls _ _).mono ?_; rintro e w' ⟨rfl, rfl⟩) | (go_at_call 88; refine (writeRune_calls _ (wb.heap.size + 3) _ _ _ (by omega) (by omega) _ hb13' hlen hsz2).mono ?_; rintro e w2 ⟨rfl, v', hv', hf⟩))
                    have hit3 := (hf.block (wb.heap.size + 2) (by omega) (by rintro (h | h); omega; have := (hb13'.2.lt _ h).1; omega)).trans hit2
                    have hb14'' := hb14'.kept hf (by rintro (h | h); omega; have := (hb13'.2.lt _ h).1; omega) (fun k hk => by simp [Value.ownBlock] at hk)
                    have hbd3 := hbd2.trans (hf.below (B := w.heap.size) (by have := hbw.size; omega) (by rintro k (h | h); have := hbw.size; omega; have := (hb13'.2.lt _ h).1; have := hbw.size; omega))
                    go_roundw
                    case rel =>
                      refine ⟨n + 1, v', by go_num, by omega, ?_, ?_, hb14'', hbd3, by have := hf.size; omega, ?_⟩
                      · rw [hit3, HD.out]
                      · rw [HD.out, rune_one _ (HP.out.1)] at hv'
                        rw [HN.out, Lib.byteCells_append]
                        exact hv'
                      · show _ = true
                        rw [HN.out, List.all_append, HAll.out]
                        simpa using HP.out.2
                    case measure =>
                      simp only [World.iterPos, hit3, hit]
                      rw [HD.out]
                      omega
                  · have hd' : digI ((Utf8.decode (a.extract p a.size) n).1 : Int) = false := by simpa using hd
                    have HNo := Lib.hid (digI_no (a.extract p a.size) n hlt hd')
                    have HT : Hid ((a.toList.drop p).takeWhile Rpm.dig = (a.toList.drop p).take n) := Lib.hid (takeWhile_at a p n hlt HAll.out HNo.out)
                    clear hd
                    go_wp2_with (first | (go_at_call 80; refine (runeDig_calls _ _).mono ?_; rintro e w' ⟨rfl, rfl⟩))
                    go_meet
                    case rel => exact ⟨v13, by rw [HT.out, List.length_take, List.length_drop, len_toList, Nat.min_eq_left (by omega)] <;> go_num, by rw [HT.out]; exact hb13', hb14', hbd2, hsz2⟩
                · have hnx : ∀ ty, (Instr.next (.pointer (some ⟨wb.heap.size + 2, 0, none⟩)) true ty).run Tryz.prog wr = _ := fun ty => Lib.run_next_end_at wr (wb.heap.size + 2) (a.extract p a.size) n ty hit hlt
                  have HT : Hid ((a.toList.drop p).takeWhile Rpm.dig = (a.toList.drop p).take n) := Lib.hid (takeWhile_end a p n hlt HAll.out)
                  go_wp2_with fail
                  go_meet
                  case rel => exact ⟨v13, by rw [HT.out, List.length_take, List.length_drop, len_toList, Nat.min_eq_left (by omega)] <;> go_num, by rw [HT.out]; exact hb13, hb14, hbd, hsz⟩
            case rest =>
              obtain ⟨v13, rfl, hb13, hb14, hbd, hszd⟩ := hcut
              obtain ⟨wd, rfl⟩ : ∃ wd : World, wd = wc := ⟨_, rfl⟩
              have h13d := hb13.2.lt
              go_upto_block 8 with fail
              go_cut [6] (fun v6 we => ∃ v14 : Value, v6 = .int .i64 ((q + ((b.toList.drop q).takeWhile Rpm.dig).length : Nat)) ∧ BV wb.heap.size (wb.heap.size + 3) v13 (Lib.byteCells ((a.toList.drop p).takeWhile Rpm.dig)) we ∧ BV (wb.heap.size + 1) (wd.heap.size + 1) v14 (Lib.byteCells ((b.toList.drop q).takeWhile Rpm.dig)) we ∧ Below w.heap.size w we ∧ wd.heap.size + 1 ≤ we.heap.size)
              case first =>
                go_wp2_with fail
                go_loopw [6] (fun v6 we => ∃ (n : Nat) (v14 : Value), v6 = .int .i64 ((q + n : Nat)) ∧ n ≤ b.size - q ∧ we.heap[wd.heap.size]? = some (.stringIter (b.extract q b.size) n) ∧ BV wb.heap.size (wb.heap.size + 3) v13 (Lib.byteCells ((a.toList.drop p).takeWhile Rpm.dig)) we ∧ BV (wb.heap.size + 1) (wd.heap.size + 1) v14 (Lib.byteCells ((b.toList.drop q).take n)) we ∧ Below w.heap.size w we ∧ wd.heap.size + 1 ≤ we.heap.size ∧ Hid (((b.toList.drop q).take n).all Rpm.dig = true)) (fun _ we => (b.extract q b.size).size - we.iterPos wd.heap.size)
                case atStart =>
                  refine ⟨0, .slice none 0 0, by go_num, Nat.zero_le _, World.iter_heap wd _ 0, hb13.kept (Fr.new _ _) (fun h => h) (fun _ _ h => h), (hb14.kept (Fr.new _ _) (fun h => h) (fun _ _ h => h)).rebase, hbd.alloc (by have := hbw.size; omega) _, ?_, rfl⟩
                  show _ ≤ (wd.alloc (.stringIter (b.extract q b.size) 0)).heap.size
                  simp
                case round =>
                  obtain ⟨n, v14, rfl, hn, hit, hb13, hb14, hbe, hsz, HAll⟩ := hrel
                  have hxz := ext_size b q
                  by_cases hlt : n < (b.extract q b.size).size
                  · have hnx : ∀ ty, (Instr.next (.pointer (some ⟨wd.heap.size, 0, none⟩)) true ty).run Tryz.prog wr = _ := fun ty => Lib.run_next_any_at wr wd.heap.size (b.extract q b.size) n ty hit hlt
                    have hit2 := Lib.iterAt_heap wr wd.heap.size (b.extract q b.size) n (n + (Utf8.decode (b.extract q b.size) n).2) hit
                    have hfi := Fr.iterAt wr wd.heap.size (b.extract q b.size) (n + (Utf8.decode (b.extract q b.size) n).2)
                    have hb13' := hb13.kept hfi (by omega) (fun k hk => by have := (h13d k hk).2; omega)
                    have hb14' := hb14.kept hfi (by omega) (fun k hk => by have := (hb14.2.lt k hk).1; omega)
                    have hbe2 := Lib.below_iterAt hbe (k := wd.heap.size) (by have := hbd.size; omega) (b.extract q b.size) (n + (Utf8.decode (b.extract q b.size) n).2)
                    have hsz2 : wd.heap.size + 1 ≤ (wr.iterAt wd.heap.size (b.extract q b.size) (n + (Utf8.decode (b.extract q b.size) n).2)).heap.size := by rw [Lib.iterAt_size]; exact hsz
                    by_cases hd : digI ((Utf8.decode (b.extract q b.size) n).1 : Int) = true
                    · have hy := digI_yes (b.extract q b.size) n hlt hd
                      have HD := Lib.hid hy.1
                      have HN := Lib.hid (run_next b q n hlt)
                      have HP := Lib.hid hy.2
                      clear hy
                      have hdl := decode_le (b.extract q b.size) n
                      have hlen : (Lib.byteCells ((b.toList.drop q).take n)).length + 4 ≤ 140737488355328 := by rw [Lib.byteCells_length, List.length_take]; omega
                      go_wp2_with (first | (go_at_call 80; refine (runeDig_calls _ _).mono ?_; rintro e w' ⟨rfl, rfl⟩) | (go_at_call 88; refine (writeRune_calls _ (wd.heap.size + 1) _ _ _ (by omega) (by omega) _ hb14' hlen hsz2).mono ?_; rintro e w2 ⟨rfl, v', hv', hf⟩))
                      have hit3 := (hf.block wd.heap.size (by omega) (by rintro (h | h); omega; have := (hb14'.2.lt _ h).1; omega)).trans hit2
                      have hb13'' := hb13'.kept hf (by rintro (h | h); omega; have := (hb14'.2.lt _ h).1; omega) (fun k hk => by have h1 := (h13d k hk); rintro (h | h); omega; have := (hb14'.2.lt _ h).1; omega)
                      have hbe3 := hbe2.trans (hf.below (B := w.heap.size) (by have := hbe2.size; omega) (by rintro k (h | h); have := hbw.size; omega; have := (hb14'.2.lt _ h).1; have := hbd.size; omega))
                      go_roundw
                      case rel =>
                        (repeat apply Exists.intro)
                        refine ⟨⟨n + 1, v', by go_num, by omega, ?_, hb13'', ?_, hbe3, by have := hf.size; omega, ?_⟩, rfl⟩
                        · rw [hit3, HD.out]
                        · rw [HD.out, rune_one _ (HP.out.1)] at hv'
                          rw [HN.out, Lib.byteCells_append]
                          exact hv'
                        · show _ = true
                          rw [HN.out, List.all_append, HAll.out]
                          simpa using HP.out.2
                      case measure =>
                        simp only [World.iterPos, hit3, hit]
                        rw [HD.out]
                        omega
                    · have hd' : digI ((Utf8.decode (b.extract q b.size) n).1 : Int) = false := by simpa using hd
                      have HNo := Lib.hid (digI_no (b.extract q b.size) n hlt hd')
                      have HT : Hid ((b.toList.drop q).takeWhile Rpm.dig = (b.toList.drop q).take n) := Lib.hid (takeWhile_at b q n hlt HAll.out HNo.out)
                      clear hd
                      go_wp2_with (first | (go_at_call 80; refine (runeDig_calls _ _).mono ?_; rintro e w' ⟨rfl, rfl⟩))
                      go_meet
                      case rel => exact ⟨v14, by rw [HT.out, List.length_take, List.length_drop, len_toList, Nat.min_eq_left (by omega)] <;> go_num, hb13', by rw [HT.out]; exact hb14', hbe2, hsz2⟩
                  · have hnx : ∀ ty, (Instr.next (.pointer (some ⟨wd.heap.size, 0, none⟩)) true ty).run Tryz.prog wr = _ := fun ty => Lib.run_next_end_at wr wd.heap.size (b.extract q b.size) n ty hit hlt
                    have HT : Hid ((b.toList.drop q).takeWhile Rpm.dig = (b.toList.drop q).take n) := Lib.hid (takeWhile_end b q n hlt HAll.out)
                    go_wp2_with fail
                    go_meet
                    case rel => exact ⟨v14, by rw [HT.out, List.length_take, List.length_drop, len_toList, Nat.min_eq_left (by omega)] <;> go_num, hb13, by rw [HT.out]; exact hb14, hbe, hsz⟩
              case rest =>
                obtain ⟨v14, rfl, g13, g14, hbe, hsze⟩ := hcut
                obtain ⟨we, rfl⟩ : ∃ we : World, we = wc := ⟨_, rfl⟩
                by_cases hpb : Rpm.dig (b[q]'lb) = true
                · have hneA := takeWhile_ne a p la pa
                  have hneB := takeWhile_ne b q lb hpb
                  have hlA := List.length_pos_iff.2 hneA
                  have hlB := List.length_pos_iff.2 hneB
                  have hmA : ((a.toList.drop p).takeWhile Rpm.dig).length ≤ a.size - p := by
                    have h := List.Sublist.length_le (List.takeWhile_sublist Rpm.dig (l := a.toList.drop p))
                    rwa [List.length_drop, len_toList] at h
                  have hmB : ((b.toList.drop q).takeWhile Rpm.dig).length ≤ b.size - q := by
                    have h := List.Sublist.length_le (List.takeWhile_sublist Rpm.dig (l := b.toList.drop q))
                    rwa [List.length_drop, len_toList] at h
                  have HX := Lib.hid (hyes hpb)
                  clear hpb hno hyes
                  go_wp2_with (first | (go_at_call 109; refine (len_ex _ _ _ _ _ g14).mono ?_; rintro e w' ⟨n, rfl, hn, rfl⟩; have hn0 : ((n : Int) == 0) = false := ne_bool (by omega); clear hn) | (go_at_call 89; refine (string_ex _ _ _ _ _ g13 hneA).mono ?_))
                  rintro e w1 ⟨ra, rfl, hra, hf1⟩
                  have HRA := Lib.hid hra
                  have zra : ra.size ≤ 2147483647 := by have h := congrArg List.length hra; rw [len_toList] at h; omega
                  clear hra
                  have g14' := g14.kept hf1 (by rintro (h | h); omega; have := (h13d _ h).1; omega) (fun k hk => by have h1 := (g14.2.lt k hk).1; rintro (h | h); have := hb14.lt; omega; have := (h13d _ h).2; omega)
                  go_wp2_with (first | (go_at_call 89; refine (string_ex _ _ _ _ _ g14' hneB).mono ?_))
                  rintro e w2 ⟨rb, rfl, hrb, hf2⟩
                  have HRB := Lib.hid hrb
                  have zrb : rb.size ≤ 2147483647 := by have h := congrArg List.length hrb; rw [len_toList] at h; omega
                  clear hrb
                  have hbf1 := hbe.trans (hf1.below (B := w.heap.size) (by have := hbe.size; omega) (by rintro k (h | h); have := hbw.size; omega; have := (h13d _ h).1; have := hbw.size; omega))
                  have hbf2 := hbf1.trans (hf2.below (B := w.heap.size) (by have := hbf1.size; omega) (by rintro k (h | h); have := hbw.size; omega; have := (g14.2.lt _ h).1; have := hbd.size; omega))
                  go_wp2_with (first | (go_at_call 110; refine (trim0_ex ra _ (by omega)).mono ?_))
                  rintro e w3 ⟨ta, rfl, hta, hb3⟩
                  have HTA := Lib.hid (hta.trans (congrArg Rpm.strip0 HRA.out))
                  clear hta
                  go_wp2_with (first | (go_at_call 110; refine (trim0_ex rb _ (by omega)).mono ?_))
                  rintro e w4 ⟨tb, rfl, htb, hb4⟩
                  have HTB := Lib.hid (htb.trans (congrArg Rpm.strip0 HRB.out))
                  clear htb
                  have hbf3 := hbf2.trans (hb3.mono (B' := w.heap.size) (by have := hbf2.size; omega))
                  have hbf4 := hbf3.trans (hb4.mono (B' := w.heap.size) (by have := hbf3.size; omega))
                  rcases Nat.lt_trichotomy ta.size tb.size with hc | hc | hc
                  · have HE : Hid (R = -1) := Lib.hid (by rw [HX.out, num_lt HTA.out HTB.out hc]; rfl)
                    go_wp2_with fail
                    go_ret
                    exact ⟨by rw [HE.out]; rfl, hbf4⟩
                  · have h1 : ta.size ≤ tb.size := by omega
                    have h2 : tb.size ≤ ta.size := by omega
                    clear hc
                    go_wp2_with (first | (go_at_call 111; refine (compare_ex _ _ _).mono ?_))
                    rintro e w5 ⟨d, rfl, hd, rfl⟩
                    have HD := Lib.hid hd
                    clear hd
                    by_cases hd0 : d = 0
                    · have HE : Hid (R = Rpm.rpm k (a.toList.drop (p + ((a.toList.drop p).takeWhile Rpm.dig).length)) (b.toList.drop (q + ((b.toList.drop q).takeWhile Rpm.dig).length))) := Lib.hid (by rw [HX.out, num_eq HTA.out HTB.out h1 h2, ← HD.out, if_pos hd0])
                      have hdb : (d == 0) = true := eq_bool hd0
                      have hdn : (d != 0) = false := by rw [bne, hdb]; rfl
                      clear hd0
                      go_wp2_with fail
                      go_roundg k
                      case measure => omega
                      case rel => exact ⟨p + ((a.toList.drop p).takeWhile Rpm.dig).length, q + ((b.toList.drop q).takeWhile Rpm.dig).length, rfl, rfl, by omega, by omega, HE, by omega, hbf4⟩
                    · have HE : Hid (R = d) := Lib.hid (by rw [HX.out, num_eq HTA.out HTB.out h1 h2, ← HD.out, if_neg hd0])
                      have hdb : (d == 0) = false := ne_bool hd0
                      have hdn : (d != 0) = true := by rw [bne, hdb]; rfl
                      clear hd0
                      go_wp2_with fail
                      go_ret
                      exact ⟨by rw [HE.out]; rfl, hbf4⟩
                  · have HE : Hid (R = 1) := Lib.hid (by rw [HX.out, num_gt HTA.out HTB.out hc]; rfl)
                    go_wp2_with fail
                    go_ret
                    exact ⟨by rw [HE.out]; rfl, hbf4⟩
                · have hpb' : Rpm.dig (b[q]'lb) = false := by simpa using hpb
                  have HE := Lib.hid (hno hpb')
                  have hz := takeWhile_no b q lb hpb'
                  rw [hz] at g14
                  clear hpb hno hyes
                  go_wp2_with (first | (go_at_call 109; refine (len_ex _ _ _ [] _ g14).mono ?_; rintro e w' ⟨n, rfl, hn, rfl⟩; have hn0 : ((n : Int) == 0) = true := eq_bool (by rw [hn]; rfl); clear hn))
                  go_ret
                  exact ⟨by rw [HE.out]; rfl, hbe⟩
        · rcases side2 b q hq HSb.out with ⟨eb, mb⟩ | ⟨lb, cb, mb⟩ | ⟨lb, cb, mb⟩ | ⟨lb, cb1, cb2, hyb⟩
          · have HE : Hid (R = 1) := Lib.hid (by rw [HRk.out, rpm_ne _ _ _ (by rw [HSa.out, HSb.out, ma, mb]; decide), HSa.out, HSb.out, ma, mb]; rfl)
            have fa1 : (((a[p]'la).toNat : Int) == 126) = false := ne_bool (by omega)
            have fa2 : (((a[p]'la).toNat : Int) == 94) = false := ne_bool (by omega)
            clear ma mb da ca1 ca2 xa
            subst eb
            go_wp2_with fail
            go_ret
            exact ⟨by rw [HE.out]; rfl, hbw⟩
          · have HE : Hid (R = 1) := Lib.hid (by rw [HRk.out, rpm_ne _ _ _ (by rw [HSa.out, HSb.out, ma, mb]; decide), HSa.out, HSb.out, ma, mb]; rfl)
            have fa1 : (((a[p]'la).toNat : Int) == 126) = false := ne_bool (by omega)
            have fa2 : (((a[p]'la).toNat : Int) == 94) = false := ne_bool (by omega)
            have fb1 : (((b[q]'lb).toNat : Int) == 126) = true := eq_bool (by omega)
            clear ma mb da ca1 ca2 xa cb
            go_wp2_with fail
            go_ret
            exact ⟨by rw [HE.out]; rfl, hbw⟩
          · have HE : Hid (R = 1) := Lib.hid (by rw [HRk.out, rpm_ne _ _ _ (by rw [HSa.out, HSb.out, ma, mb]; decide), HSa.out, HSb.out, ma, mb]; rfl)
            have fa1 : (((a[p]'la).toNat : Int) == 126) = false := ne_bool (by omega)
            have fa2 : (((a[p]'la).toNat : Int) == 94) = false := ne_bool (by omega)
            have fb1 : (((b[q]'lb).toNat : Int) == 126) = false := ne_bool (by omega)
            have fb2 : (((b[q]'lb).toNat : Int) == 94) = true := eq_bool (by omega)
            clear ma mb da ca1 ca2 xa cb
            go_wp2_with fail
            go_ret
            exact ⟨by rw [HE.out]; rfl, hbw⟩
          · have fa1 : (((a[p]'la).toNat : Int) == 126) = false := ne_bool (by omega)
            have fa2 : (((a[p]'la).toNat : Int) == 94) = false := ne_bool (by omega)
            have fb1 : (((b[q]'lb).toNat : Int) == 126) = false := ne_bool (by omega)
            have fb2 : (((b[q]'lb).toNat : Int) == 94) = false := ne_bool (by omega)
            have ga : ((p : Int) == (a.size : Int)) = false := ne_bool (by omega)
            have gb : ((q : Int) == (b.size : Int)) = false := ne_bool (by omega)
            have hyes : Rpm.let_ (b[q]'lb) = true → R = if cS ((a.toList.drop p).takeWhile Rpm.let_) ((b.toList.drop q).takeWhile Rpm.let_) = 0 then Rpm.rpm k (a.toList.drop (p + ((a.toList.drop p).takeWhile Rpm.let_).length)) (b.toList.drop (q + ((b.toList.drop q).takeWhile Rpm.let_).length)) else cS ((a.toList.drop p).takeWhile Rpm.let_) ((b.toList.drop q).takeWhile Rpm.let_) := by
              intro hpb
              have mb : Rpm.mark (b.toList.drop q) = 2 := by
                rcases hyb with ⟨h1, h2, h3⟩ | ⟨h1, h2, h3⟩
                · rw [h2] at hpb; exact absurd hpb (by simp)
                · exact h3
              rw [HRk.out, rpm_let _ _ _ (HSa.out ▸ ma) (HSb.out ▸ mb), HSa.out, HSb.out, dropWhile_drop, dropWhile_drop]
            have hno : Rpm.let_ (b[q]'lb) = false → R = -1 := by
              intro hpb
              have mb : Rpm.mark (b.toList.drop q) = 3 := by
                rcases hyb with ⟨h1, h2, h3⟩ | ⟨h1, h2, h3⟩
                · exact h3
                · rw [h2] at hpb; exact absurd hpb (by simp)
              rw [HRk.out, rpm_ne _ _ _ (by rw [HSa.out, HSb.out, ma, mb]; decide), HSa.out, HSb.out, ma, mb]
              rfl
            have pa : Rpm.let_ (a[p]'la) = true := xa
            clear hyb ma ca1 ca2 cb1 cb2
            go_upto_block 6 with (first | (go_at_call 80; refine (isDigW_calls _ _).mono ?_; rintro e w' ⟨rfl, rfl⟩))
            obtain ⟨wb, rfl⟩ : ∃ wb : World, wb = wc := ⟨_, rfl⟩
            go_cut [5] (fun v5 wd => ∃ v13 : Value, v5 = .int .i64 ((p + ((a.toList.drop p).takeWhile Rpm.let_).length : Nat)) ∧ BV wb.heap.size (wb.heap.size + 3) v13 (Lib.byteCells ((a.toList.drop p).takeWhile Rpm.let_)) wd ∧ BV (wb.heap.size + 1) (wb.heap.size + 3) (.slice none 0 0) [] wd ∧ Below w.heap.size w wd ∧ wb.heap.size + 3 ≤ wd.heap.size)
            case first =>
              go_wp2_with fail
              go_loopw [5] (fun v5 wd => ∃ (n : Nat) (v13 : Value), v5 = .int .i64 ((p + n : Nat)) ∧ n ≤ a.size - p ∧ wd.heap[wb.heap.size + 2]? = some (.stringIter (a.extract p a.size) n) ∧ BV wb.heap.size (wb.heap.size + 3) v13 (Lib.byteCells ((a.toList.drop p).take n)) wd ∧ BV (wb.heap.size + 1) (wb.heap.size + 3) (.slice none 0 0) [] wd ∧ Below w.heap.size w wd ∧ wb.heap.size + 3 ≤ wd.heap.size ∧ Hid (((a.toList.drop p).take n).all Rpm.let_ = true)) (fun _ wd => (a.extract p a.size).size - wd.iterPos (wb.heap.size + 2))
              case atStart =>
                obtain ⟨t1, t2, t3, t4, t5⟩ := two_builders wb (a.extract p a.size) hbw.size hbw
                exact ⟨0, .slice none 0 0, by go_num, Nat.zero_le _, t3, t1, t2, t4, t5, rfl⟩
              case round =>
                obtain ⟨n, v13, rfl, hn, hit, hb13, hb14, hbd, hsz, HAll⟩ := hrel
                have hxz := ext_size a p
                by_cases hlt : n < (a.extract p a.size).size
                · have hnx : ∀ ty, (Instr.next (.pointer (some ⟨wb.heap.size + 2, 0, none⟩)) true ty).run Tryz.prog wr = _ := fun ty => Lib.run_next_any_at wr (wb.heap.size + 2) (a.extract p a.size) n ty hit hlt
                  have hit2 := Lib.iterAt_heap wr (wb.heap.size + 2) (a.extract p a.size) n (n + (Utf8.decode (a.extract p a.size) n).2) hit
                  have hfi := Fr.iterAt wr (wb.heap.size + 2) (a.extract p a.size) (n + (Utf8.decode (a.extract p a.size) n).2)
                  have hb13' := hb13.kept hfi (by omega) (fun k hk => by have := (hb13.2.lt k hk).1; omega)
                  have hb14' := hb14.kept hfi (by omega) (fun k hk => by simp [Value.ownBlock] at hk)
                  have hbd2 := Lib.below_iterAt hbd (k := wb.heap.size + 2) (by have := hbw.size; omega) (a.extract p a.size) (n + (Utf8.decode (a.extract p a.size) n).2)
                  have hsz2 : wb.heap.size + 3 ≤ (wr.iterAt (wb.heap.size + 2) (a.extract p a.size) (n + (Utf8.decode (a.extract p a.size) n).2)).heap.size := by rw [Lib.iterAt_size]; exact hsz
                  by_cases hd : letI_ ((Utf8.decode (a.extract p a.size) n).1 : Int) = true
                  · have hy := letI__yes (a.extract p a.size) n hlt hd
                    have HD := Lib.hid hy.1
                    have HN := Lib.hid (run_next a p n hlt)
                    have HP := Lib.hid hy.2
                    clear hy
                    have hdl := decode_le (a.extract p a.size) n
                    have hlen : (Lib.byteCells ((a.toList.drop p).take n)).length + 4 ≤ 140737488355328 := by rw [Lib.byteCells_length, List.length_take]; omega
                    go_wp2_with (first | (go_at_call 108; refine (runeLet_calls _ _).mono ?_; rintro e w' ⟨rfl, rfl⟩) | (go_at_call 88; refine (writeRune_calls _ (wb.heap.size + 3) _ _ _ (by omega) (by omega) _ hb13' hlen hsz2).mono ?_; rintro e w2 ⟨rfl, v', hv', hf⟩))
                    have hit3 := (hf.block (wb.heap.size + 2) (by omega) (by rintro (h | h); omega; have := (hb13'.2.lt _ h).1; omega)).trans hit2
                    have hb14'' := hb14'.kept hf (by rintro (h | h); omega; have := (hb13'.2.lt _ h).1; omega) (fun k hk => by simp [Value.ownBlock] at hk)
                    have hbd3 := hbd2.trans (hf.below (B := w.heap.size) (by have := hbw.size; omega) (by rintro k (h | h); have := hbw.size; omega; have := (hb13'.2.lt _ h).1; have := hbw.size; omega))
                    go_roundw
                    case rel =>
                      refine ⟨n + 1, v', by go_num, by omega, ?_, ?_, hb14'', hbd3, by have := hf.size; omega, ?_⟩
                      · rw [hit3, HD.out]
                      · rw [HD.out, rune_one _ (HP.out.1)] at hv'
                        rw [HN.out, Lib.byteCells_append]
                        exact hv'
                      · show _ = true
                        rw [HN.out, List.all_append, HAll.out]
                        simpa using HP.out.2
                    case measure =>
                      simp only [World.iterPos, hit3, hit]
                      rw [HD.out]
                      omega
                  · have hd' : letI_ ((Utf8.decode (a.extract p a.size) n).1 : Int) = false := by simpa using hd
                    have HNo := Lib.hid (letI__no (a.extract p a.size) n hlt hd')
                    have HT : Hid ((a.toList.drop p).takeWhile Rpm.let_ = (a.toList.drop p).take n) := Lib.hid (takeWhile_at a p n hlt HAll.out HNo.out)
                    clear hd
                    go_wp2_with (first | (go_at_call 108; refine (runeLet_calls _ _).mono ?_; rintro e w' ⟨rfl, rfl⟩))
                    go_meet
                    case rel => exact ⟨v13, by rw [HT.out, List.length_take, List.length_drop, len_toList, Nat.min_eq_left (by omega)] <;> go_num, by rw [HT.out]; exact hb13', hb14', hbd2, hsz2⟩
                · have hnx : ∀ ty, (Instr.next (.pointer (some ⟨wb.heap.size + 2, 0, none⟩)) true ty).run Tryz.prog wr = _ := fun ty => Lib.run_next_end_at wr (wb.heap.size + 2) (a.extract p a.size) n ty hit hlt
                  have HT : Hid ((a.toList.drop p).takeWhile Rpm.let_ = (a.toList.drop p).take n) := Lib.hid (takeWhile_end a p n hlt HAll.out)
                  go_wp2_with fail
                  go_meet
                  case rel => exact ⟨v13, by rw [HT.out, List.length_take, List.length_drop, len_toList, Nat.min_eq_left (by omega)] <;> go_num, by rw [HT.out]; exact hb13, hb14, hbd, hsz⟩
            case rest =>
              obtain ⟨v13, rfl, hb13, hb14, hbd, hszd⟩ := hcut
              obtain ⟨wd, rfl⟩ : ∃ wd : World, wd = wc := ⟨_, rfl⟩
              have h13d := hb13.2.lt
              go_upto_block 8 with fail
              go_cut [6] (fun v6 we => ∃ v14 : Value, v6 = .int .i64 ((q + ((b.toList.drop q).takeWhile Rpm.let_).length : Nat)) ∧ BV wb.heap.size (wb.heap.size + 3) v13 (Lib.byteCells ((a.toList.drop p).takeWhile Rpm.let_)) we ∧ BV (wb.heap.size + 1) (wd.heap.size + 1) v14 (Lib.byteCells ((b.toList.drop q).takeWhile Rpm.let_)) we ∧ Below w.heap.size w we ∧ wd.heap.size + 1 ≤ we.heap.size)
              case first =>
                go_wp2_with fail
                go_loopw [6] (fun v6 we => ∃ (n : Nat) (v14 : Value), v6 = .int .i64 ((q + n : Nat)) ∧ n ≤ b.size - q ∧ we.heap[wd.heap.size]? = some (.stringIter (b.extract q b.size) n) ∧ BV wb.heap.size (wb.heap.size + 3) v13 (Lib.byteCells ((a.toList.drop p).takeWhile Rpm.let_)) we ∧ BV (wb.heap.size + 1) (wd.heap.size + 1) v14 (Lib.byteCells ((b.toList.drop q).take n)) we ∧ Below w.heap.size w we ∧ wd.heap.size + 1 ≤ we.heap.size ∧ Hid (((b.toList.drop q).take n).all Rpm.let_ = true)) (fun _ we => (b.extract q b.size).size - we.iterPos wd.heap.size)
                case atStart =>
                  refine ⟨0, .slice none 0 0, by go_num, Nat.zero_le _, World.iter_heap wd _ 0, hb13.kept (Fr.new _ _) (fun h => h) (fun _ _ h => h), (hb14.kept (Fr.new _ _) (fun h => h) (fun _ _ h => h)).rebase, hbd.alloc (by have := hbw.size; omega) _, ?_, rfl⟩
                  show _ ≤ (wd.alloc (.stringIter (b.extract q b.size) 0)).heap.size
                  simp
                case round =>
                  obtain ⟨n, v14, rfl, hn, hit, hb13, hb14, hbe, hsz, HAll⟩ := hrel
                  have hxz := ext_size b q
                  by_cases hlt : n < (b.extract q b.size).size
                  · have hnx : ∀ ty, (Instr.next (.pointer (some ⟨wd.heap.size, 0, none⟩)) true ty).run Tryz.prog wr = _ := fun ty => Lib.run_next_any_at wr wd.heap.size (b.extract q b.size) n ty hit hlt
                    have hit2 := Lib.iterAt_heap wr wd.heap.size (b.extract q b.size) n (n + (Utf8.decode (b.extract q b.size) n).2) hit
                    have hfi := Fr.iterAt wr wd.heap.size (b.extract q b.size) (n + (Utf8.decode (b.extract q b.size) n).2)
                    have hb13' := hb13.kept hfi (by omega) (fun k hk => by have := (h13d k hk).2; omega)
                    have hb14' := hb14.kept hfi (by omega) (fun k hk => by have := (hb14.2.lt k hk).1; omega)
                    have hbe2 := Lib.below_iterAt hbe (k := wd.heap.size) (by have := hbd.size; omega) (b.extract q b.size) (n + (Utf8.decode (b.extract q b.size) n).2)
                    have hsz2 : wd.heap.size + 1 ≤ (wr.iterAt wd.heap.size (b.extract q b.size) (n + (Utf8.decode (b.extract q b.size) n).2)).heap.size := by rw [Lib.iterAt_size]; exact hsz
                    by_cases hd : letI_ ((Utf8.decode (b.extract q b.size) n).1 : Int) = true
                    · have hy := letI__yes (b.extract q b.size) n hlt hd
                      have HD := Lib.hid hy.1
                      have HN := Lib.hid (run_next b q n hlt)
                      have HP := Lib.hid hy.2
                      clear hy
                      have hdl := decode_le (b.extract q b.size) n
                      have hlen : (Lib.byteCells ((b.toList.drop q).take n)).length + 4 ≤ 140737488355328 := by rw [Lib.byteCells_length, List.length_take]; omega
                      go_wp2_with (first | (go_at_call 108; refine (runeLet_calls _ _).mono ?_; rintro e w' ⟨rfl, rfl⟩) | (go_at_call 88; refine (writeRune_calls _ (wd.heap.size + 1) _ _ _ (by omega) (by omega) _ hb14' hlen hsz2).mono ?_; rintro e w2 ⟨rfl, v', hv', hf⟩))
                      have hit3 := (hf.block wd.heap.size (by omega) (by rintro (h | h); omega; have := (hb14'.2.lt _ h).1; omega)).trans hit2
                      have hb13'' := hb13'.kept hf (by rintro (h | h); omega; have := (hb14'.2.lt _ h).1; omega) (fun k hk => by have h1 := (h13d k hk); rintro (h | h); omega; have := (hb14'.2.lt _ h).1; omega)
                      have hbe3 := hbe2.trans (hf.below (B := w.heap.size) (by have := hbe2.size; omega) (by rintro k (h | h); have := hbw.size; omega; have := (hb14'.2.lt _ h).1; have := hbd.size; omega))
                      go_roundw
                      case rel =>
                        (repeat apply Exists.intro)
                        refine ⟨⟨n + 1, v', by go_num, by omega, ?_, hb13'', ?_, hbe3, by have := hf.size; omega, ?_⟩, rfl⟩
                        · rw [hit3, HD.out]
                        · rw [HD.out, rune_one _ (HP.out.1)] at hv'
                          rw [HN.out, Lib.byteCells_append]
                          exact hv'
                        · show _ = true
                          rw [HN.out, List.all_append, HAll.out]
                          simpa using HP.out.2
                      case measure =>
                        simp only [World.iterPos, hit3, hit]
                        rw [HD.out]
                        omega
                    · have hd' : letI_ ((Utf8.decode (b.extract q b.size) n).1 : Int) = false := by simpa using hd
                      have HNo := Lib.hid (letI__no (b.extract q b.size) n hlt hd')
                      have HT : Hid ((b.toList.drop q).takeWhile Rpm.let_ = (b.toList.drop q).take n) := Lib.hid (takeWhile_at b q n hlt HAll.out HNo.out)
                      clear hd
                      go_wp2_with (first | (go_at_call 108; refine (runeLet_calls _ _).mono ?_; rintro e w' ⟨rfl, rfl⟩))
                      go_meet
                      case rel => exact ⟨v14, by rw [HT.out, List.length_take, List.length_drop, len_toList, Nat.min_eq_left (by omega)] <;> go_num, hb13', by rw [HT.out]; exact hb14', hbe2, hsz2⟩
                  · have hnx : ∀ ty, (Instr.next (.pointer (some ⟨wd.heap.size, 0, none⟩)) true ty).run Tryz.prog wr = _ := fun ty => Lib.run_next_end_at wr wd.heap.size (b.extract q b.size) n ty hit hlt
                    have HT : Hid ((b.toList.drop q).takeWhile Rpm.let_ = (b.toList.drop q).take n) := Lib.hid (takeWhile_end b q n hlt HAll.out)
                    go_wp2_with fail
                    go_meet
                    case rel => exact ⟨v14, by rw [HT.out, List.length_take, List.length_drop, len_toList, Nat.min_eq_left (by omega)] <;> go_num, hb13, by rw [HT.out]; exact hb14, hbe, hsz⟩
              case rest =>
                obtain ⟨v14, rfl, g13, g14, hbe, hsze⟩ := hcut
                obtain ⟨we, rfl⟩ : ∃ we : World, we = wc := ⟨_, rfl⟩
                by_cases hpb : Rpm.let_ (b[q]'lb) = true
                · have hneA := takeWhile_ne a p la pa
                  have hneB := takeWhile_ne b q lb hpb
                  have hlA := List.length_pos_iff.2 hneA
                  have hlB := List.length_pos_iff.2 hneB
                  have hmA : ((a.toList.drop p).takeWhile Rpm.let_).length ≤ a.size - p := by
                    have h := List.Sublist.length_le (List.takeWhile_sublist Rpm.let_ (l := a.toList.drop p))
                    rwa [List.length_drop, len_toList] at h
                  have hmB : ((b.toList.drop q).takeWhile Rpm.let_).length ≤ b.size - q := by
                    have h := List.Sublist.length_le (List.takeWhile_sublist Rpm.let_ (l := b.toList.drop q))
                    rwa [List.length_drop, len_toList] at h
                  have HX := Lib.hid (hyes hpb)
                  clear hpb hno hyes
                  go_wp2_with (first | (go_at_call 109; refine (len_ex _ _ _ _ _ g14).mono ?_; rintro e w' ⟨n, rfl, hn, rfl⟩; have hn0 : ((n : Int) == 0) = false := ne_bool (by omega); clear hn) | (go_at_call 89; refine (string_ex _ _ _ _ _ g13 hneA).mono ?_))
                  rintro e w1 ⟨ra, rfl, hra, hf1⟩
                  have HRA := Lib.hid hra
                  have zra : ra.size ≤ 2147483647 := by have h := congrArg List.length hra; rw [len_toList] at h; omega
                  clear hra
                  have g14' := g14.kept hf1 (by rintro (h | h); omega; have := (h13d _ h).1; omega) (fun k hk => by have h1 := (g14.2.lt k hk).1; rintro (h | h); have := hb14.lt; omega; have := (h13d _ h).2; omega)
                  go_wp2_with (first | (go_at_call 89; refine (string_ex _ _ _ _ _ g14' hneB).mono ?_))
                  rintro e w2 ⟨rb, rfl, hrb, hf2⟩
                  have HRB := Lib.hid hrb
                  have zrb : rb.size ≤ 2147483647 := by have h := congrArg List.length hrb; rw [len_toList] at h; omega
                  clear hrb
                  have hbf1 := hbe.trans (hf1.below (B := w.heap.size) (by have := hbe.size; omega) (by rintro k (h | h); have := hbw.size; omega; have := (h13d _ h).1; have := hbw.size; omega))
                  have hbf2 := hbf1.trans (hf2.below (B := w.heap.size) (by have := hbf1.size; omega) (by rintro k (h | h); have := hbw.size; omega; have := (g14.2.lt _ h).1; have := hbd.size; omega))
                  go_wp2_with (first | (go_at_call 111; refine (compare_ex _ _ _).mono ?_))
                  rintro e w5 ⟨d, rfl, hd, rfl⟩
                  have HD : Hid (d = cS ((a.toList.drop p).takeWhile Rpm.let_) ((b.toList.drop q).takeWhile Rpm.let_)) := Lib.hid (by rw [hd, HRA.out, HRB.out])
                  clear hd
                  by_cases hd0 : d = 0
                  · have HE : Hid (R = Rpm.rpm k (a.toList.drop (p + ((a.toList.drop p).takeWhile Rpm.let_).length)) (b.toList.drop (q + ((b.toList.drop q).takeWhile Rpm.let_).length))) := Lib.hid (by rw [HX.out, ← HD.out, if_pos hd0])
                    have hdb : (d == 0) = true := eq_bool hd0
                    have hdn : (d != 0) = false := by rw [bne, hdb]; rfl
                    clear hd0
                    go_wp2_with fail
                    go_roundg k
                    case measure => omega
                    case rel => exact ⟨p + ((a.toList.drop p).takeWhile Rpm.let_).length, q + ((b.toList.drop q).takeWhile Rpm.let_).length, rfl, rfl, by omega, by omega, HE, by omega, hbf2⟩
                  · have HE : Hid (R = d) := Lib.hid (by rw [HX.out, ← HD.out, if_neg hd0])
                    have hdb : (d == 0) = false := ne_bool hd0
                    have hdn : (d != 0) = true := by rw [bne, hdb]; rfl
                    clear hd0
                    go_wp2_with fail
                    go_ret
                    exact ⟨by rw [HE.out]; rfl, hbf2⟩
                · have hpb' : Rpm.let_ (b[q]'lb) = false := by simpa using hpb
                  have HE := Lib.hid (hno hpb')
                  have hz := takeWhile_no b q lb hpb'
                  rw [hz] at g14
                  clear hpb hno hyes
                  go_wp2_with (first | (go_at_call 109; refine (len_ex _ _ _ [] _ g14).mono ?_; rintro e w' ⟨n, rfl, hn, rfl⟩; have hn0 : ((n : Int) == 0) = true := eq_bool (by rw [hn]; rfl); clear hn))
                  go_ret
                  exact ⟨by rw [HE.out]; rfl, hbe⟩
end Go.Proofs.YtnbpoplomdocjaaGreatDoor.Giv
/- Contract by hand: compareRedHatComponents, the empty texts; and the contract that the printed callers use. -/
namespace Go.Proofs.YtnbpoplomdocjaaGreatDoor.Giv
open Go.RowKit Go.Proofs.YtnbpoplomdocjaaGreatDoor.Ord
set_option linter.unusedSimpArgs false
set_option linter.unusedVariables false

theorem isEmpty_iff (a : ByteArray) : a.toList.isEmpty = true ↔ a.toList = [] := by simp
theorem empty_eq (a : ByteArray) (h : a.toList = []) : a = ⟨#[]⟩ := by
  rw [toList_eq'] at h
  cases a with
  | mk d =>
    congr 1
    exact Array.toList_eq_nil_iff.1 h

set_option maxHeartbeats 1000000 in
set_option maxRecDepth 100000 in
theorem parts_lo (b : ByteArray) (w : World) (hB : b.toList.isEmpty = false) :
    Calls Tryz.prog 81 #[.string ⟨#[]⟩, .string b] w fun e w' => e = .returned (.int .i64 (-1)) ∧ Below w.heap.size w w' := by
  go_enter Tryz.func81, Tryz.ntmps81
  go_wp2_with fail
  go_ret
  exact ⟨rfl, Below.refl _ _⟩
set_option maxHeartbeats 1000000 in
set_option maxRecDepth 100000 in
theorem parts_hi (a : ByteArray) (w : World) (hA : a.toList.isEmpty = false) :
    Calls Tryz.prog 81 #[.string a, .string ⟨#[]⟩] w fun e w' => e = .returned (.int .i64 1) ∧ Below w.heap.size w w' := by
  go_enter Tryz.func81, Tryz.ntmps81
  go_wp2_with fail
  go_ret
  exact ⟨rfl, Below.refl _ _⟩
set_option maxHeartbeats 1000000 in
set_option maxRecDepth 100000 in
theorem parts_00 (w : World) :
    Calls Tryz.prog 81 #[.string ⟨#[]⟩, .string ⟨#[]⟩] w fun e w' => e = .returned (.int .i64 0) ∧ Below w.heap.size w w' := by
  go_enter Tryz.func81, Tryz.ntmps81
  go_wp2_with fail
  go_loopg [5, 6] 1 (fun kf v5 v6 wr => v5 = .int .i64 0 ∧ v6 = .int .i64 0 ∧ Below w.heap.size w wr)
  case atStart => exact ⟨rfl, rfl, Below.refl _ _⟩
  case round =>
    obtain ⟨rfl, rfl, hbw⟩ := hrel
    go_wp2_with fail
    go_loop [5] (fun v5 => v5 = .int .i64 0) (fun v5 => 0)
    case atStart => rfl
    case round =>
      obtain rfl := hrel
      go_wp2_with fail
      go_loop [6] (fun v6 => v6 = .int .i64 0) (fun v6 => 0)
      case atStart => rfl
      case round =>
        obtain rfl := hrel
        go_wp2_with fail
        go_ret
        exact ⟨rfl, hbw⟩

theorem parts_calls (a b : ByteArray) (w : World) (ha : a.size ≤ 2147483647) (hb : b.size ≤ 2147483647) :
    Calls Tryz.prog 81 #[.string a, .string b] w fun e w' => e = .returned (.int .i64 (Rpm.parts a.toList b.toList)) ∧ Below w.heap.size w w' := by
  rcases hA : a.toList.isEmpty with _ | _
  · rcases hB : b.toList.isEmpty with _ | _
    · have nA : a.toList ≠ [] := fun h => by rw [h] at hA; exact absurd hA (by simp)
      have nB : b.toList ≠ [] := fun h => by rw [h] at hB; exact absurd hB (by simp)
      have e : Rpm.parts a.toList b.toList = Rpm.rpm (a.toList.length + b.toList.length + 1) a.toList b.toList := by
        unfold Rpm.parts
        rw [if_neg (by simp [nA, nB])]
      rw [e]
      exact rpm_calls a b w ha hb hA hB
    · have nB := (isEmpty_iff b).1 hB
      have nA : a.toList ≠ [] := fun h => by rw [h] at hA; exact absurd hA (by simp)
      have hl := List.length_pos_iff.2 nA
      have e : Rpm.parts a.toList b.toList = 1 := by
        unfold Rpm.parts
        rw [if_pos (.inr nB), nB]
        rw [cI_pos]
        simp
        omega
      rw [e, empty_eq b nB]
      exact parts_hi a w hA
  · have nA := (isEmpty_iff a).1 hA
    rcases hB : b.toList.isEmpty with _ | _
    · have nB : b.toList ≠ [] := fun h => by rw [h] at hB; exact absurd hB (by simp)
      have hl := List.length_pos_iff.2 nB
      have e : Rpm.parts a.toList b.toList = -1 := by
        unfold Rpm.parts
        rw [if_pos (.inl nA), nA]
        rw [cI_neg]
        simp
        omega
      rw [e, empty_eq a nA]
      exact parts_lo b w hB
    · have nB := (isEmpty_iff b).1 hB
      have e : Rpm.parts a.toList b.toList = 0 := by
        unfold Rpm.parts
        rw [if_pos (.inl nA), nA, nB]
        rfl
      rw [e, empty_eq a nA, empty_eq b nB]
      exact parts_00 w
def semantic_compareRedHatComponents.f (a0 a1 : ByteArray) : Option Int := if a0.size ≤ 2147483647 then (if a1.size ≤ 2147483647 then some (Rpm.parts a0.toList a1.toList) else none) else none
theorem semantic_compareRedHatComponents.calls (a0 a1 : ByteArray) (r : Int) (w : World) (h : semantic_compareRedHatComponents.f a0 a1 = some r) :
    Calls Tryz.prog 81 #[.string a0, .string a1] w fun e w' => e = .returned (.int .i64 r) ∧ Below w.heap.size w w' := by
  unfold semantic_compareRedHatComponents.f at h
  by_cases h0 : a0.size ≤ 2147483647
  · by_cases h1 : a1.size ≤ 2147483647
    · rw [if_pos h0, if_pos h1] at h
      obtain rfl := Option.some.inj h
      exact parts_calls a0 a1 w h0 h1
    · rw [if_pos h0, if_neg h1] at h
      exact absurd h (by simp)
  · rw [if_neg h0] at h
    exact absurd h (by simp)
end Go.Proofs.YtnbpoplomdocjaaGreatDoor.Giv
/- Contracts by hand: isOnlyDigits, zzIndexAny. -/
namespace Go.Proofs.YtnbpoplomdocjaaGreatDoor.Giv
open Go.RowKit Go.Proofs.YtnbpoplomdocjaaGreatDoor.Ord
set_option linter.unusedSimpArgs false
set_option linter.unusedVariables false

def onlyDigits (s : ByteArray) : Bool := s.toList.all Rpm.dig
theorem all_no (s : ByteArray) (k : Nat) (h : k < s.size) (hd : Rpm.dig (s[k]'h) = false) : onlyDigits s = false := by
  unfold onlyDigits
  rw [List.all_eq_false]
  refine ⟨s[k]'h, ?_, by simp [hd]⟩
  rw [← getElem_toList s k h]
  exact List.getElem_mem _
theorem only_calls (s : ByteArray) (w : World) (hs : s.size ≤ 140737488351232) :
    Calls Tryz.prog 43 #[.string s] w fun e w' => e = .returned (.bool (onlyDigits s)) ∧ Below w.heap.size w w' := by
  go_enter Tryz.func43, Tryz.ntmps43
  go_wp2
  go_loopw [] (fun wr => ∃ (pos : Nat), wr.heap[w.heap.size]? = some (.stringIter s pos) ∧ Below w.heap.size w wr ∧ pos ≤ s.size ∧ (s.toList.take pos).all Rpm.dig = true) (fun wr => s.size - wr.iterPos w.heap.size)
  case atStart =>
    exact ⟨0, World.iter_heap w s 0, (Below.refl _ w).alloc (Nat.le_refl _) _, Nat.zero_le _, rfl⟩
  case round =>
    obtain ⟨pos, hit, hbw, hp, hall⟩ := hrel
    have hsz : w.heap.size < wr.heap.size := (Array.getElem?_eq_some_iff.1 hit).1
    by_cases hlt : pos < s.size
    · have hnx : ∀ ty, (Instr.next (.pointer (some ⟨w.heap.size, 0, none⟩)) true ty).run Tryz.prog wr = _ := fun ty => Lib.run_next_any_at wr w.heap.size s pos ty hit hlt
      have hbw2 := Lib.below_iterAt hbw (k := w.heap.size) (Nat.le_refl _) s (pos + (Utf8.decode s pos).2)
      by_cases hd : digI ((Utf8.decode s pos).1 : Int) = true
      · go_wp2_with (go_at_call 80; refine (runeDig_calls _ _).mono ?_; rintro e w' ⟨rfl, rfl⟩)
        go_roundw
        case rel =>
          obtain ⟨e1, _, e2⟩ := digI_yes s pos hlt hd
          refine ⟨pos + (Utf8.decode s pos).2, Lib.iterAt_heap wr w.heap.size s pos _ hit, hbw2, by rw [e1]; exact hlt, ?_⟩
          rw [e1, take_next' s pos hlt, List.all_append, hall]
          simp [e2]
        case measure =>
          obtain ⟨e1, _, e2⟩ := digI_yes s pos hlt hd
          simp only [World.iterPos, Lib.iterAt_heap wr w.heap.size s pos _ hit, hit]
          rw [e1]
          omega
      · have hd' : digI ((Utf8.decode s pos).1 : Int) = false := by simpa using hd
        go_wp2_with (go_at_call 80; refine (runeDig_calls _ _).mono ?_; rintro e w' ⟨rfl, rfl⟩)
        go_ret
        exact ⟨by rw [all_no s pos hlt (digI_no s pos hlt hd')]; rfl, hbw2⟩
    · have hnx : ∀ ty, (Instr.next (.pointer (some ⟨w.heap.size, 0, none⟩)) true ty).run Tryz.prog wr = _ := fun ty => Lib.run_next_end_at wr w.heap.size s pos ty hit hlt
      go_wp2
      go_ret
      rw [List.take_of_length_le (by rw [len_toList]; omega)] at hall
      exact ⟨by rw [onlyDigits, hall]; rfl, hbw⟩
def semantic_isOnlyDigits.f (a0 : ByteArray) : Option Bool := if a0.size ≤ 140737488351232 then some (onlyDigits a0) else none
theorem semantic_isOnlyDigits.calls (a0 : ByteArray) (r : Bool) (w : World) (h : semantic_isOnlyDigits.f a0 = some r) :
    Calls Tryz.prog 43 #[.string a0] w fun e w' => e = .returned (.bool r) ∧ Below w.heap.size w w' := by
  unfold semantic_isOnlyDigits.f at h
  by_cases hs : a0.size ≤ 140737488351232
  · rw [if_pos hs] at h
    obtain rfl := Option.some.inj h
    exact only_calls a0 w hs
  · rw [if_neg hs] at h
    exact absurd h (by simp)
end Go.Proofs.YtnbpoplomdocjaaGreatDoor.Giv
/- Red Hat versions as a plain function on bytes: into which parts they fall, how they compare. No program. -/
namespace Go.Proofs.YtnbpoplomdocjaaGreatDoor.Red
set_option linter.unusedVariables false
open Go.Proofs.YtnbpoplomdocjaaGreatDoor.Ord Go.Proofs.YtnbpoplomdocjaaGreatDoor

def notC (c : UInt8) (x : UInt8) : Bool := !(x == c)
abbrev Ver := List UInt8 × List UInt8 × List UInt8
/-- Version and release; an absent epoch is 0. -/
def tail (e l : List UInt8) : Ver := (if e = [] then [48] else e, l.takeWhile (notC 45), l.dropWhile (notC 45))
def parse (l : List UInt8) : Ver :=
  if l.any (fun x => x == 58) && (l.takeWhile (notC 58)).all Rpm.dig then tail (l.takeWhile (notC 58)) (l.dropWhile (notC 58)).tail else tail [] l
def vc (a b : Ver) : Int := if Rpm.parts a.1 b.1 = 0 then (if Rpm.parts a.2.1 b.2.1 = 0 then Rpm.parts a.2.2 b.2.2 else Rpm.parts a.2.1 b.2.1) else Rpm.parts a.1 b.1
def cmp (a b : List UInt8) : Int := vc (parse a) (parse b)
theorem tw_le (p : UInt8 → Bool) (l : List UInt8) : (l.takeWhile p).length ≤ l.length := List.Sublist.length_le (List.takeWhile_sublist _)
theorem dw_le (p : UInt8 → Bool) (l : List UInt8) : (l.dropWhile p).length ≤ l.length := List.Sublist.length_le (List.dropWhile_sublist _)
theorem parse_len (l : List UInt8) : (parse l).1.length ≤ l.length + 1 ∧ (parse l).2.1.length ≤ l.length ∧ (parse l).2.2.length ≤ l.length := by
  have a := tw_le (notC 58) l
  have b := dw_le (notC 58) l
  have t : ((l.dropWhile (notC 58)).tail).length ≤ l.length := by rw [List.length_tail]; omega
  have c := tw_le (notC 45) (l.dropWhile (notC 58)).tail
  have d := dw_le (notC 45) (l.dropWhile (notC 58)).tail
  have e := tw_le (notC 45) l
  have f := dw_le (notC 45) l
  unfold parse tail
  split
  · refine ⟨?_, by show (List.takeWhile _ _).length ≤ _; omega, by show (List.dropWhile _ _).length ≤ _; omega⟩
    show (if l.takeWhile (notC 58) = [] then [48] else l.takeWhile (notC 58) : List UInt8).length ≤ _
    split
    · simp
    · omega
  · refine ⟨?_, e, f⟩
    show (if ([] : List UInt8) = [] then [48] else [] : List UInt8).length ≤ _
    simp
end Go.Proofs.YtnbpoplomdocjaaGreatDoor.Red
