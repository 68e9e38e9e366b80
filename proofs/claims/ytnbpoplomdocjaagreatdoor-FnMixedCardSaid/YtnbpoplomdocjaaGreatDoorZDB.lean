/- Several texts of this claim in one. Put together by wip/tool/merge.py. -/
import Derived.Test.YtnbpoplomdocjaaGreatDoorZD
import Derived.Test.YtnbpoplomdocjaaGreatDoorZDA
import Derived.Lib.LastIndexByte
import Derived.Test.YtnbpoplomdocjaaGreatDoorZK
import Derived.Test.YtnbpoplomdocjaaGreatDoorQCx
import Derived.Test.YtnbpoplomdocjaaGreatDoorShelf
import Derived.Lib.AtoiErrMem
import Derived.Lib.LaidTab
import Derived.Outline
/- The last place of a byte in a text, as the library's contract tells it. No program. -/
namespace Go.Proofs.YtnbpoplomdocjaaGreatDoor.Pk
open Go.RowKit Go.Proofs.YtnbpoplomdocjaaGreatDoor.Giv
set_option linter.unusedVariables false
theorem bs_bang (l : List UInt8) (j : Nat) (h : j < l.length) : (bs l).data[j]! = l[j]'h := by
  unfold bs
  simp [h]
theorem lastIx (c : UInt8) (l : List UInt8) : Lib.lastIndexByte (bs l) (c.toNat : Int) = match Deb.cutLast c l with | some p => (p.1.length : Int) | none => -1 := by
  have sp := Lib.lastIndexByte_spec (bs l) (c.toNat : Int)
  rw [bs_size] at sp
  have toN : ∀ x : UInt8, ((x.toNat : Int) = (c.toNat : Int)) → x = c := fun x h => UInt8.toNat_inj.1 (by omega)
  cases h : Deb.cutLast c l with
  | none =>
    show _ = (-1 : Int)
    have hn := (Deb.cutLast_none c l).1 h
    rw [List.any_eq_false] at hn
    rcases sp with ⟨e, _⟩ | ⟨i, hi, e, hc, _⟩
    · exact e
    · rw [bs_bang l i hi] at hc
      exact absurd (by rw [beq_iff_eq]; exact toN _ hc) (hn _ (List.getElem_mem hi))
  | some p =>
    obtain ⟨u, v⟩ := p
    show _ = (u.length : Int)
    obtain ⟨el, hv⟩ := Deb.cutLast_some c h
    rw [List.any_eq_false] at hv
    have hul : u.length < l.length := by rw [el, List.length_append, List.length_cons]; omega
    have hu : l[u.length]'hul = c := by
      simp [el]
    rcases sp with ⟨_, hn⟩ | ⟨i, hi, e, hc, hb⟩
    · exact absurd (by rw [bs_bang l _ hul, hu]) (hn u.length hul)
    · rw [e]
      rw [bs_bang l i hi] at hc
      have hc := toN _ hc
      rcases Nat.lt_trichotomy i u.length with hl | hl | hl
      · exact absurd (by rw [bs_bang l _ hul, hu]) (hb u.length hl hul)
      · omega
      · refine absurd ?_ (hv c ?_)
        · rw [beq_iff_eq]
        · rw [← hc]
          have hm : l[i]? = v[i - u.length - 1]? := by
            rw [el, List.getElem?_append_right (by omega)]
            obtain ⟨d, hd⟩ : ∃ d, i - u.length = d + 1 := ⟨i - u.length - 1, by omega⟩
            rw [hd, List.getElem?_cons_succ, Nat.add_sub_cancel]
          rw [List.getElem?_eq_getElem hi] at hm
          obtain ⟨hlt, he⟩ := List.getElem?_eq_some_iff.1 hm.symm
          rw [← he]
          exact List.getElem_mem hlt
end Go.Proofs.YtnbpoplomdocjaaGreatDoor.Pk
/- What the program answers of texts cut at a byte. -/
namespace Go.Proofs.YtnbpoplomdocjaaGreatDoor.QC
open Go.RowKit Go.Proofs.YtnbpoplomdocjaaGreatDoorW.PrintWords Go.Proofs.YtnbpoplomdocjaaGreatDoorW.PrintLast Go.Proofs.YtnbpoplomdocjaaGreatDoor.Pk Go.Proofs.YtnbpoplomdocjaaGreatDoor.Giv Go.Proofs.YtnbpoplomdocjaaGreatDoor.Ord
set_option linter.unusedVariables false

theorem sp_one (c : UInt8) : (⟨#[c]⟩ : ByteArray) = bs [c] := rfl
theorem sp_idx_loop (l : List UInt8) (c : UInt8) (hs : l.length < 4611686018427387904) (d : Nat) : ∀ i : Nat, i + d = l.length → (l.take i).any (fun x => x == c) = false → Ev (fun k => semantic_zzIndex.l0 k (bs l) (bs [c]) (i : Int)) (placeOf (fun x => x == c) l) := by
  induction d with
  | zero =>
    intro i hi hno
    have w := wr i (by omega)
    refine Ev.step (fun k => by rw [semantic_zzIndex.l0, bs_size, bs_size]) ?_
    have w' : wrap64 ((i : Int) + (([c] : List UInt8).length : Int)) = ((i + 1 : Nat) : Int) := w
    rw [w']
    refine ev_neg (by omega) ?_
    rw [List.take_of_length_le (by omega)] at hno
    have e : placeOf (fun x => x == c) l = -1 := by
      unfold placeOf
      rw [hno]
      rfl
    rw [e]
    exact Ev.now _
  | succ d ih =>
    intro i hi hno
    have hlt : i < l.length := by omega
    have w := wr i (by omega)
    have w' : wrap64 ((i : Int) + (([c] : List UInt8).length : Int)) = ((i + 1 : Nat) : Int) := w
    refine Ev.step (fun k => by rw [semantic_zzIndex.l0, bs_size, bs_size]) ?_
    rw [w', w]
    refine ev_pos (by omega) (ev_pos (by omega) (ev_pos (by omega) ?_))
    have hx : ((bs l).extract ((i : Int)).toNat (((i + 1 : Nat) : Int)).toNat).toList = [l[i]'hlt] := by
      rw [Int.toNat_natCast, Int.toNat_natCast, bs_ext, bs_toList, List.drop_eq_getElem_cons hlt, show i + 1 - i = 1 by omega]
      rfl
    rw [hx, bs_toList]
    by_cases h : (l[i]'hlt) = c
    · refine ev_pos (by rw [h]) ?_
      rw [placeOf_step _ l i hlt hno (by rw [h]; simp)]
      exact Ev.now _
    · refine ev_neg (fun e => h (List.cons.inj e).1) ?_
      refine ih (i + 1) (by omega) ?_
      rw [List.take_succ_eq_append_getElem hlt, List.any_append, hno]
      simpa using h
theorem sp_idx (l : List UInt8) (c : UInt8) (hs : l.length < 4611686018427387904) : Ev (fun k => semantic_zzIndex.f k (bs l) (bs [c])) (placeOf (fun x => x == c) l) := sp_idx_loop l c hs l.length 0 (by omega) (by simp)
theorem sp_place (c : UInt8) (l : List UInt8) (h : (l.any (fun x => x == c)) = true) : placeOf (fun x => x == c) l = ((Cut.upTo c l).length : Int) := by
  unfold placeOf
  rw [if_pos h]
  congr 1
  induction l with
  | nil => simp at h
  | cons x r ih =>
    unfold Cut.upTo
    rw [List.findIdx_cons]
    by_cases hx : x = c
    · rw [List.takeWhile_cons_of_neg (by simp [hx])]
      simp [hx]
    · rw [List.takeWhile_cons_of_pos (by simp [hx])]
      rw [List.any_cons] at h
      have hr : (r.any fun x => x == c) = true := by simpa [hx] using h
      have := ih hr
      unfold Cut.upTo at this
      have hb : (x == c) = false := by simpa using hx
      rw [hb, List.length_cons]
      simp [this]
theorem sp_loop (c : UInt8) (n : Nat) : ∀ (l : List UInt8) (acc : List ByteArray), l.length ≤ n → acc.length + l.length < 8796093022207 → Ev (fun k => semantic_zzSplit.l1 k (bs l) (bs [c]) acc) (acc ++ (Cut.cutAt c l).map bs) := by
  induction n with
  | zero =>
    intro l acc hl ha
    have e : l = [] := List.length_eq_zero_iff.1 (by omega)
    subst e
    refine Ev.step (fun k => by rw [semantic_zzSplit.l1]) ?_
    refine (sp_idx [] c (by simp)).bind ?_
    refine ev_pos (by simp [placeOf]) (ev_pos (by omega) ?_)
    exact Ev.now _
  | succ n ih =>
    intro l acc hl ha
    refine Ev.step (fun k => by rw [semantic_zzSplit.l1]) ?_
    refine (sp_idx l c (by omega)).bind ?_
    by_cases h : (l.any (fun x => x == c)) = true
    · obtain ⟨e1, e2, e3⟩ := Cut.cutAt_yes c l h
      rw [sp_place c l h, e1]
      generalize (Cut.upTo c l).length = j at *
      have w : wrap64 ((j : Int) + ((bs [c]).size : Int)) = ((j + 1 : Nat) : Int) := by
        rw [bs_size]
        exact wr j (by omega)
      refine ev_neg (by omega) (ev_pos (by omega) (ev_pos (by rw [bs_size]; omega) (ev_pos (by omega) ?_)))
      rw [w]
      refine ev_pos (by omega) (ev_pos (by rw [bs_size]; omega) ?_)
      rw [Int.toNat_natCast, Int.toNat_natCast, bs_extAll, bs_extHead, e3]
      have z := ih (l.drop (j + 1)) (acc ++ [bs (Cut.upTo c l)]) (by rw [List.length_drop]; omega) (by rw [List.length_append, List.length_singleton, List.length_drop]; omega)
      rw [List.append_assoc] at z
      exact z
    · have h' : (l.any (fun x => x == c)) = false := Bool.eq_false_iff.2 h
      have e : placeOf (fun x => x == c) l = -1 := by
        unfold placeOf
        rw [h']
        rfl
      rw [e, (Cut.cutAt_no c l h').1]
      refine ev_pos (by omega) (ev_pos (by omega) ?_)
      exact Ev.now _
theorem split_ev (c : UInt8) (l : List UInt8) (hl : l.length < 8796093022207) : Ev (fun k => semantic_zzSplit.f k (bs l) (bs [c])) ((Cut.cutAt c l).map bs) := by
  unfold semantic_zzSplit.f
  refine ev_neg (by rw [bs_size]; simp) ?_
  have := sp_loop c l.length l [] (Nat.le_refl _) (by simpa using hl)
  exact this
end Go.Proofs.YtnbpoplomdocjaaGreatDoor.QC
/- Contracts by hand: a byte's first place in a text, a text cut around a byte, blanks trimmed, of any text. -/
namespace Go.Proofs.YtnbpoplomdocjaaGreatDoor.Giv
open Go.RowKit Go.Proofs.YtnbpoplomdocjaaGreatDoorW.PrintWords Go.Proofs.YtnbpoplomdocjaaGreatDoorW.PrintLast Go.Proofs.YtnbpoplomdocjaaGreatDoor.Pk Go.Proofs.YtnbpoplomdocjaaGreatDoor.Ord Go.Proofs.YtnbpoplomdocjaaGreatDoor.QC
set_option linter.unusedVariables false
set_option linter.unusedSimpArgs false

theorem zzIdx_calls (l : List UInt8) (c : UInt8) (hl : l.length < 4611686018427387904) (w : World) :
    Calls Tryz.prog 76 #[.string (bs l), .string ⟨#[c]⟩] w fun e w' => e = .returned (.int .i64 (placeOf (fun x => x == c) l)) ∧ Below w.heap.size w w' := by
  obtain ⟨k, hk⟩ := (sp_idx l c hl).rounds
  refine (semantic_zzIndex.calls k (bs l) (bs [c]) _ w hk).mono ?_
  rintro e w' ⟨rfl, d⟩
  exact ⟨rfl, d.below⟩
theorem place_ge0 (p : UInt8 → Bool) (l : List UInt8) : decide (placeOf p l ≥ 0) = l.any p := by
  unfold placeOf
  cases h : l.any p with
  | true => rw [if_pos rfl]; simp
  | false => rw [if_neg (by simp)]; rfl
theorem zzHas_calls (l : List UInt8) (c : UInt8) (hl : l.length < 4611686018427387904) (w : World) :
    Calls Tryz.prog 38 #[.string (bs l), .string ⟨#[c]⟩] w fun e w' => e = .returned (.bool (l.any (fun x => x == c))) ∧ Below w.heap.size w w' := by
  have h : Ev (fun k => semantic_zzContains.f k (bs l) (bs [c])) (l.any (fun x => x == c)) := by
    unfold semantic_zzContains.f
    refine (sp_idx l c hl).bind ?_
    rw [place_ge0]
    exact Ev.now _
  obtain ⟨k, hk⟩ := h.rounds
  refine (semantic_zzContains.calls k (bs l) (bs [c]) _ w hk).mono ?_
  rintro e w' ⟨rfl, d⟩
  exact ⟨rfl, d.below⟩
set_option maxRecDepth 100000 in
/-- Cut at the first c. -/
theorem splitFirst_calls (l : List UInt8) (c : UInt8) (hl : l.length ≤ 40000) (h : l.any (fun x => x == c) = true) (w : World) :
    Calls Tryz.prog 39 #[.string (bs l), .string ⟨#[c]⟩, .bool false] w fun e w' => e = .returned (.tuple #[.string (bs (Cut.upTo c l)), .string (bs (l.drop ((Cut.upTo c l).length + 1)))]) ∧ Below w.heap.size w w' := by
  have ci := zzIdx_calls l c (by omega) w
  rw [sp_place c l h] at ci
  have cy := Cut.cutAt_yes c l h
  have eh : (bs l).extract 0 (Cut.upTo c l).length = bs (Cut.upTo c l) := by rw [bs_extHead, cy.2.2]
  have et : (bs l).extract ((Cut.upTo c l).length + 1) (bs l).size = bs (l.drop ((Cut.upTo c l).length + 1)) := bs_extAll _ _
  obtain ⟨k, ek⟩ : ∃ k, k = (Cut.upTo c l).length := ⟨_, rfl⟩
  rw [← ek] at ci eh et cy ⊢
  have sz : (bs l).size = l.length := bs_size l
  have EH := Aside0.mk eh
  have ET := Aside0.mk et
  have f1 : (k : Int) ≤ ((bs l).size : Int) := by rw [sz]; omega
  have f2 : k ≤ (bs l).size := by rw [sz]; omega
  have f3 : ((k : Int) == -1) = false := beq_eq_false_iff_ne.2 (by omega)
  have wk : wrap64 ((k : Int) + 1) = ((k + 1 : Nat) : Int) := Pk.wr k (by omega)
  have f4 : ((k + 1 : Nat) : Int) ≤ ((bs l).size : Int) := by rw [sz]; omega
  have f5 : k + 1 ≤ (bs l).size := by rw [sz]; omega
  generalize bs l = s at *
  clear eh et cy hl h sz ek
  go_enter Tryz.func39, Tryz.ntmps39
  go_wp2_with (first | (go_at_call 76; (with_reducible refine ci.mono ?_); rintro e w1 ⟨rfl, d1⟩; have D1 := Aside0.mk d1; clear d1))
  go_region
  all_goals
    go_wp2_with fail
    exact bodyPost_ret (results_list (rs := [.tmp 6, .tmp 7]) rfl (by simp) (.tmp (.tmp .nil))) rfl ⟨by rw [← EH.out, ← ET.out]; rfl, Below.drew D1.out⟩
set_option maxRecDepth 100000 in
/-- Cut at the last c. -/
theorem splitLast_calls (l u v : List UInt8) (c : UInt8) (hl : l.length ≤ 40000) (h : Deb.cutLast c l = some (u, v)) (w : World) :
    Calls Tryz.prog 39 #[.string (bs l), .string ⟨#[c]⟩, .bool true] w fun e w' => e = .returned (.tuple #[.string (bs u), .string (bs v)]) ∧ Below w.heap.size w w' := by
  have ci : Calls Tryz.prog 77 #[.string (bs l), .string ⟨#[c]⟩] w fun e w' => e = .returned (.int .i64 (u.length : Int)) ∧ w' = w := by
    have := Tryz.strings_LastIndex_one (bs l) ⟨#[c]⟩ rfl (by rw [bs_size]; omega) w
    have e : (((⟨#[c]⟩ : ByteArray)[0]'(by show 0 < 1; omega)).toNat : Int) = (c.toNat : Int) := rfl
    rw [e, lastIx, h] at this
    exact this
  obtain ⟨el, hv⟩ := Deb.cutLast_some c h
  have eh : (bs l).extract 0 u.length = bs u := by rw [bs_extHead, el, List.take_left' rfl]
  have et : (bs l).extract (u.length + 1) (bs l).size = bs v := by
    rw [bs_extAll, el, ← List.drop_drop, List.drop_left' rfl]
    rfl
  have kl : u.length < l.length := by rw [el, List.length_append, List.length_cons]; omega
  obtain ⟨k, ek⟩ : ∃ k, k = u.length := ⟨_, rfl⟩
  rw [← ek] at ci eh et kl
  have sz : (bs l).size = l.length := bs_size l
  have EH := Aside0.mk eh
  have ET := Aside0.mk et
  have f1 : (k : Int) ≤ ((bs l).size : Int) := by rw [sz]; omega
  have f2 : k ≤ (bs l).size := by rw [sz]; omega
  have f3 : ((k : Int) == -1) = false := beq_eq_false_iff_ne.2 (by omega)
  have wk : wrap64 ((k : Int) + 1) = ((k + 1 : Nat) : Int) := Pk.wr k (by omega)
  have f4 : ((k + 1 : Nat) : Int) ≤ ((bs l).size : Int) := by rw [sz]; omega
  have f5 : k + 1 ≤ (bs l).size := by rw [sz]; omega
  generalize bs l = s at *
  clear eh et hl h sz ek el hv kl
  go_enter Tryz.func39, Tryz.ntmps39
  go_wp2_with (first | (go_at_call 77; (with_reducible refine ci.mono ?_); rintro e w1 ⟨rfl, rfl⟩))
  go_region
  all_goals
    go_wp2_with fail
    exact bodyPost_ret (results_list (rs := [.tmp 6, .tmp 7]) rfl (by simp) (.tmp (.tmp .nil))) rfl ⟨by rw [← EH.out, ← ET.out]; rfl, Below.drew (Below.refl _ _)⟩
/-- The errors and the tables that trimming reads are laid. -/
structure LaidD (w : World) : Prop where
  err : Laid w
  tab : Lib.TabIs Tryz.prog w "strings.asciiSpace" .u8 Lib.asciiSpaceTab
  u8 : Lib.Utf8Tabs 6 7 w
  ws : Lib.WhiteTab 3 w
theorem asc_tab_name : Tryz.prog.globalNamed "strings.asciiSpace" = some 2 := by kernel_rfl
theorem LaidD.below {w w' : World} (h : LaidD w) (hb : Below w.heap.size w w') : LaidD w' := by
  refine ⟨h.err.below hb, ?_, Utf8Tabs_below h.u8 hb, WhiteTab_below h.ws hb⟩
  have ht := h.tab
  unfold Lib.TabIs World.var? at ht ⊢
  rw [asc_tab_name] at ht ⊢
  simp only [Option.bind_some] at ht ⊢
  have hlt : 2 < w.heap.size := by
    rcases Nat.lt_or_ge 2 w.heap.size with h' | h'
    · exact h'
    · rw [Array.getElem?_eq_none h'] at ht
      simp at ht
  rw [hb.block _ hlt]
  exact ht
theorem trimR_le : ∀ (f : Nat) (l : List UInt8), (Lib.trimRightD f l).length ≤ l.length
  | 0, l => by simp [Lib.trimRightD]
  | f + 1, l => by
    unfold Lib.trimRightD
    split
    · simp
    · split
      · exact Nat.le_trans (trimR_le f _) (by rw [List.length_take]; omega)
      · exact Nat.le_refl _
/-- A text without blanks around. -/
def dtU (l : List UInt8) : List UInt8 := Lib.trimSpaceD l
theorem dtU_len (l : List UInt8) : (dtU l).length ≤ l.length := Nat.le_trans (trimR_le _ _) (Lib.trimLeftD_le _ _)
theorem trim_calls (l : List UInt8) (h : l.length ≤ 40000) (w : World) (hL : LaidD w) :
    Calls Tryz.prog 36 #[.string (bs l)] w fun e w' => e = .returned (.string (bs (dtU l))) ∧ Below w.heap.size w w' := by
  have hd : (bs l).data.toList = l := by unfold bs; simp
  refine (Tryz.strings_TrimSpace_any (bs l) w (by rw [bs_size]; omega) hL.tab hL.u8 hL.ws).mono ?_
  rintro e w' ⟨rfl, d⟩
  rw [hd]
  exact ⟨rfl, d⟩
end Go.Proofs.YtnbpoplomdocjaaGreatDoor.Giv
/- Contracts by hand: versions of Debian: what a text falls into, how two compare. -/
namespace Go.Proofs.YtnbpoplomdocjaaGreatDoor.Giv
open Go.RowKit Go.Proofs.YtnbpoplomdocjaaGreatDoorW.PrintWords Go.Proofs.YtnbpoplomdocjaaGreatDoorW.PrintLast Go.Proofs.YtnbpoplomdocjaaGreatDoor.Pk Go.Proofs.YtnbpoplomdocjaaGreatDoor.Ord
set_option linter.unusedVariables false
set_option linter.unusedSimpArgs false

theorem dv_cell_block {w w1 : World} (p : Addr) (h : w1.heap[p.block]? = w.heap[p.block]?) : w1.cell? p = w.cell? p := by
  unfold World.cell?
  rw [h]
theorem dv_add_block (a : Addr) (k : Nat) : (a.add k).block = a.block := by
  unfold Addr.add
  split <;> rfl
theorem dv_moved {α : Type} {enc : α → Value} {h1 : ∀ x, (enc x).oneCell' = true} {w w1 : World} {A : Option Addr} {n : Nat} {xs : List α} (h : (Kd.scalar enc h1).C w A n xs) (hm : ∀ a, A = some a → w1.heap[a.block]? = w.heap[a.block]?) : (Kd.scalar enc h1).C w1 A n xs := by
  refine ⟨h.1, h.2.1, fun h0 => ?_⟩
  obtain ⟨ad, he, hc⟩ := h.2.2 h0
  refine ⟨ad, he, fun j p hj => ?_⟩
  obtain ⟨c, c1, c2, c3⟩ := hc j p hj
  refine ⟨c, c1, c2, fun i u hu => ?_⟩
  rw [dv_cell_block (w := w) (w1 := w1) _ (by rw [dv_add_block]; exact hm ad he)]
  exact c3 i u hu
theorem IsBig.keptD {w w1 : World} {b : Nat} {z : Int} (h : IsBig w b z) (hm : ∀ (k : Nat) (cells : Array Value) (q : TypeId), w.heap[k]? = some (Obj.cells cells q (0, 0)) → (q = 91 ∨ q = 117) → w1.heap[k]? = w.heap[k]?) : IsBig w1 b z := by
  obtain ⟨A, c, h1, h3, h4, h5, h6⟩ := h
  have hA : ∀ a, A = some a → w1.heap[a.block]? = w.heap[a.block]? := fun a e => by
    obtain ⟨arr, ha⟩ := h6 a e
    exact hm _ _ _ ha (.inr rfl)
  refine ⟨A, c, (hm _ _ _ h1 (.inl rfl)).trans h1, h3, h4, dv_moved h5 hA, fun a e => ?_⟩
  obtain ⟨arr, ha⟩ := h6 a e
  exact ⟨arr, (hA a e).trans ha⟩
theorem IsBig.putD {w : World} {b : Nat} {z : Int} (h : IsBig w b z) {g t : Nat} {cells : Array Value} (hb : w.heap[g]? = some (Obj.cells cells t (0, 0))) (ht : t ≠ 91 ∧ t ≠ 117) (j : Nat) (u : Value) : IsBig (w.setCell ⟨g, j, none⟩ u) b z := by
  refine h.keptD (fun k cells' q hk hq => Below.heap_setCell w ⟨g, j, none⟩ u k (fun e => ?_))
  have e' : k = g := e
  rw [e', hb] at hk
  injection hk with hk
  injection hk with _ hk
  rcases hq with hq | hq
  · exact ht.1 (hk.trans hq)
  · exact ht.2 (hk.trans hq)
/-- What is left in the world: the struct's block filled, the number where it was. -/
theorem dv_fin {w0 w : World} {b g : Nat} {z : Int} (u v : List UInt8) (hb : IsBig w b z) (hk : w.heap[g]? = some (Obj.cells #[Value.pointer none, .string ⟨#[]⟩, .string ⟨#[]⟩] 38 (0, 0))) (hB : Below w0.heap.size w0 w) (hh : w0.heap.size ≤ g) :
    IsBig (((w.setCell ⟨g, 0, none⟩ (.pointer (some ⟨b, 0, none⟩))).setCell ⟨g, 1, none⟩ (.string (bs u))).setCell ⟨g, 2, none⟩ (.string (bs v))) b z ∧ Below w0.heap.size w0 (((w.setCell ⟨g, 0, none⟩ (.pointer (some ⟨b, 0, none⟩))).setCell ⟨g, 1, none⟩ (.string (bs u))).setCell ⟨g, 2, none⟩ (.string (bs v))) ∧ (((w.setCell ⟨g, 0, none⟩ (.pointer (some ⟨b, 0, none⟩))).setCell ⟨g, 1, none⟩ (.string (bs u))).setCell ⟨g, 2, none⟩ (.string (bs v))).heap[g]? = some (Obj.cells #[Value.pointer (some ⟨b, 0, none⟩), .string (bs u), .string (bs v)] 38 (0, 0)) := by
  have k1 := blk_put (cs := #[Value.pointer none, .string ⟨#[]⟩, .string ⟨#[]⟩]) hk 0 (.pointer (some ⟨b, 0, none⟩)) rfl
  have k2 := blk_put (cs := #[Value.pointer (some ⟨b, 0, none⟩), .string ⟨#[]⟩, .string ⟨#[]⟩]) k1 1 (.string (bs u)) rfl
  have k3 := blk_put (cs := #[Value.pointer (some ⟨b, 0, none⟩), .string (bs u), .string ⟨#[]⟩]) k2 2 (.string (bs v)) rfl
  exact ⟨((hb.putD hk (by decide) 0 _).putD k1 (by decide) 1 _).putD k2 (by decide) 2 _, ((hB.setCell (p := ⟨g, 0, none⟩) hh _).setCell (p := ⟨g, 1, none⟩) hh _).setCell (p := ⟨g, 2, none⟩) hh _, k3⟩
theorem dv_bad {w0 w : World} {g : Nat} (hk : w.heap[g]? = some (Obj.cells #[Value.pointer none, .string ⟨#[]⟩, .string ⟨#[]⟩] 38 (0, 0))) (hB : Below w0.heap.size w0 w) (hh : w0.heap.size ≤ g) :
    Below w0.heap.size w0 (((w.setCell ⟨g, 0, none⟩ (.pointer none)).setCell ⟨g, 1, none⟩ (.string ⟨#[]⟩)).setCell ⟨g, 2, none⟩ (.string ⟨#[]⟩)) ∧ (((w.setCell ⟨g, 0, none⟩ (.pointer none)).setCell ⟨g, 1, none⟩ (.string ⟨#[]⟩)).setCell ⟨g, 2, none⟩ (.string ⟨#[]⟩)).heap[g]? = some (Obj.cells #[Value.pointer none, .string ⟨#[]⟩, .string ⟨#[]⟩] 38 (0, 0)) := by
  have k1 := blk_put (cs := #[Value.pointer none, .string ⟨#[]⟩, .string ⟨#[]⟩]) hk 0 (.pointer none) rfl
  have k2 := blk_put (cs := #[Value.pointer none, .string ⟨#[]⟩, .string ⟨#[]⟩]) k1 1 (.string ⟨#[]⟩) rfl
  have k3 := blk_put (cs := #[Value.pointer none, .string ⟨#[]⟩, .string ⟨#[]⟩]) k2 2 (.string ⟨#[]⟩) rfl
  exact ⟨((hB.setCell (p := ⟨g, 0, none⟩) hh _).setCell (p := ⟨g, 1, none⟩) hh _).setCell (p := ⟨g, 2, none⟩) hh _, k3⟩
theorem dv_end {w : World} {tmps : Array Value} (x y z er : Value) {g : Nat} (hp : tmps.getD 2 undef = .pointer (some ⟨g, 0, none⟩)) (he : tmps.getD 3 undef = er) (hg : w.heap[g]? = some (.cells #[x, y, z] 38 (0, 0))) :
    (results Tryz.f17 tmps).run Tryz.prog w = .ok (.tuple #[.agg #[x, y, z], er]) w := by
  subst he
  exact results_list (rs := [.cell 2 38, .tmp 3]) rfl (by simp) (.cell g 38 #[x, y, z] (0, 0) _ hp hg Tryz.underlying38 rfl (by kernel_rfl) (.tmp .nil))
/-- What a text falls into, as the program reads it. -/
def dvL (l : List UInt8) : Option (Int × List UInt8 × List UInt8) := Deb.dvp (dtU l)
/-- What reading a version leaves. -/
def DvPost (w : World) (p : Option (Int × List UInt8 × List UInt8)) (e : Ending) (w' : World) : Prop :=
  Below w.heap.size w w' ∧ ((∃ (q : Int × List UInt8 × List UInt8) (b : Nat), p = some q ∧ e = .returned (.tuple #[.agg #[.pointer (some ⟨b, 0, none⟩), .string (bs q.2.1), .string (bs q.2.2)], .nilIface]) ∧ IsBig w' b q.1) ∨ (p = none ∧ ∃ a, e = .returned (.tuple #[.agg #[.pointer none, .string ⟨#[]⟩, .string ⟨#[]⟩], errv a])))
set_option maxRecDepth 100000 in
set_option maxHeartbeats 4000000 in
theorem parseDeb_calls (l : List UInt8) (h : l.length ≤ 40000) (w : World) (hL : LaidD w) :
    Calls Tryz.prog 17 #[.string (bs l)] w (DvPost w (dvL l)) := by
  have al := below_alloc (Below.refl w.heap.size w) (Obj.cells #[Value.pointer none, .string ⟨#[]⟩, .string ⟨#[]⟩] 38)
  have AL := Aside0.mk al
  have K0 := Aside0.mk (blk_new w (Obj.cells #[Value.pointer none, .string ⟨#[]⟩, .string ⟨#[]⟩] 38))
  have LT := Aside0.mk (blk_lt K0.out)
  have HL := Aside0.mk hL
  have tr := trim_calls l h _ (hL.below al)
  have lt := Nat.le_trans (dtU_len l) h
  have DV : Aside0 (dvL l = Deb.dvp (dtU l)) := Aside0.mk rfl
  rw [DV.out]
  clear DV al h hL
  generalize dtU l = t at *
  have hc := fun w' => zzHas_calls t 58 (by omega) w'
  cases h58 : t.any (fun x => x == 58) with
  | false =>
    have CL := Aside0.mk h58
    rw [h58] at hc
    clear h58
    go_enter Tryz.func17, Tryz.ntmps17
    have hy := fun w' => zzHas_calls (t) 45 (by omega) w'
    cases hcl : Deb.cutLast 45 (t) with
    | none =>
      rw [(Deb.cutLast_none 45 _).1 hcl] at hy
      have RE := Aside0.mk (show Deb.dvp t = some (0, t, [48]) by unfold Deb.dvp; rw [if_neg (by rw [CL.out]; simp)]; unfold Deb.urv; rw [hcl]; rfl)
      clear hcl CL
      go_wp2_with (first | (go_at_call 36; (with_reducible refine tr.mono ?_); rintro e w1 ⟨rfl, d1⟩; have D1 := Aside0.mk (below_then AL.out AL.out.size d1); have K1 := Aside0.mk ((d1.block _ LT.out).trans K0.out); clear d1 tr) | (go_at_call 37; (with_reducible refine (newInt0_calls _).mono ?_); rintro e w2 ⟨b2, rfl, q2, d2⟩; have D2 := Aside0.mk (below_then D1.out D1.out.size d2); have K2 := Aside0.mk ((d2.block _ (blk_lt K1.out)).trans K1.out); have Q2 := Aside0.mk q2; clear d2 q2) | (go_at_call 38; (with_reducible refine (hc _).mono ?_); rintro e w3 ⟨rfl, d3⟩; have D3 := Aside0.mk (below_then D2.out D2.out.size d3); have K3 := Aside0.mk ((d3.block _ (blk_lt K2.out)).trans K2.out); have Q3 := Aside0.mk (Q2.out.below d3); clear d3 hc) | (go_at_call 38; (with_reducible refine (hy _).mono ?_); rintro e w6 ⟨rfl, d6⟩; have D6 := Aside0.mk (below_then D3.out D3.out.size d6); have K6 := Aside0.mk ((d6.block _ (blk_lt K3.out)).trans K3.out); have Q6 := Aside0.mk (Q3.out.below d6); have p0 := blk_cell K6.out 0; have p1 := blk_cell K6.out 1; have p2 := blk_cell K6.out 2; have f0 := Lib.frozen_of_heap K6.out 0; have f1 := Lib.frozen_of_heap K6.out 1; have f2 := Lib.frozen_of_heap K6.out 2; have lt0 := blk_lt K6.out; clear d6 hy))
      have FN := dv_fin (t) ([48]) Q6.out K6.out D6.out (Nat.le_refl _)
      exact bodyPost_ret (dv_end (.pointer (some ⟨_, 0, none⟩)) (.string (bs (t))) (.string (bs ([48]))) .nilIface rfl rfl FN.2.2) rfl ⟨FN.2.1, .inl ⟨(0, t, [48]), _, RE.out, rfl, FN.1⟩⟩
    | some uv =>
      obtain ⟨u, v⟩ := uv
      have sl := fun w' => splitLast_calls (t) u v 45 (by omega) hcl w'
      have an : (t).any (fun x => x == 45) = true := by
        cases ha : (t).any (fun x => x == 45) with
        | true => rfl
        | false => rw [(Deb.cutLast_none 45 _).2 ha] at hcl; exact absurd hcl (by simp)
      rw [an] at hy
      have RE := Aside0.mk (show Deb.dvp t = some (0, u, v) by unfold Deb.dvp; rw [if_neg (by rw [CL.out]; simp)]; unfold Deb.urv; rw [hcl]; rfl)
      clear hcl an CL
      go_wp2_with (first | (go_at_call 36; (with_reducible refine tr.mono ?_); rintro e w1 ⟨rfl, d1⟩; have D1 := Aside0.mk (below_then AL.out AL.out.size d1); have K1 := Aside0.mk ((d1.block _ LT.out).trans K0.out); clear d1 tr) | (go_at_call 37; (with_reducible refine (newInt0_calls _).mono ?_); rintro e w2 ⟨b2, rfl, q2, d2⟩; have D2 := Aside0.mk (below_then D1.out D1.out.size d2); have K2 := Aside0.mk ((d2.block _ (blk_lt K1.out)).trans K1.out); have Q2 := Aside0.mk q2; clear d2 q2) | (go_at_call 38; (with_reducible refine (hc _).mono ?_); rintro e w3 ⟨rfl, d3⟩; have D3 := Aside0.mk (below_then D2.out D2.out.size d3); have K3 := Aside0.mk ((d3.block _ (blk_lt K2.out)).trans K2.out); have Q3 := Aside0.mk (Q2.out.below d3); clear d3 hc) | (go_at_call 38; (with_reducible refine (hy _).mono ?_); rintro e w6 ⟨rfl, d6⟩; have D6 := Aside0.mk (below_then D3.out D3.out.size d6); have K6 := Aside0.mk ((d6.block _ (blk_lt K3.out)).trans K3.out); have Q6 := Aside0.mk (Q3.out.below d6); clear d6 hy) | (go_at_call 39; (with_reducible refine (sl _).mono ?_); rintro e w7 ⟨rfl, d7⟩; have D7 := Aside0.mk (below_then D6.out D6.out.size d7); have K7 := Aside0.mk ((d7.block _ (blk_lt K6.out)).trans K6.out); have Q7 := Aside0.mk (Q6.out.below d7); have p0 := blk_cell K7.out 0; have p1 := blk_cell K7.out 1; have p2 := blk_cell K7.out 2; have f0 := Lib.frozen_of_heap K7.out 0; have f1 := Lib.frozen_of_heap K7.out 1; have f2 := Lib.frozen_of_heap K7.out 2; have lt0 := blk_lt K7.out; clear d7 sl))
      have FN := dv_fin (u) (v) Q7.out K7.out D7.out (Nat.le_refl _)
      exact bodyPost_ret (dv_end (.pointer (some ⟨_, 0, none⟩)) (.string (bs (u))) (.string (bs (v))) .nilIface rfl rfl FN.2.2) rfl ⟨FN.2.1, .inl ⟨(0, u, v), _, RE.out, rfl, FN.1⟩⟩
  | true =>
    have CL := Aside0.mk h58
    have sf := fun w' => splitFirst_calls t 58 (by omega) h58 w'
    have ul : (Cut.upTo 58 t).length ≤ 40000 := Nat.le_trans (tw_le _ t) lt
    have rl : (t.drop ((Cut.upTo 58 t).length + 1)).length ≤ 40000 := by rw [List.length_drop]; omega
    rw [h58] at hc
    cases hp : Num.parse (Cut.upTo 58 t) with
    | none =>
      have cv := fun (w' : World) (hb' : Below w.heap.size w w') => conv_none (bs (Cut.upTo 58 t)) w' (by rw [bs_size]; exact ul) (HL.out.below hb').err (by rw [bs_toList]; exact hp)
      have RE := Aside0.mk (show Deb.dvp t = none by unfold Deb.dvp; rw [if_pos CL.out, hp]; rfl)
      clear h58 hp ul rl lt CL
      generalize Cut.upTo 58 t = up at *
      generalize t.drop (up.length + 1) = rs at *
      go_enter Tryz.func17, Tryz.ntmps17
      go_wp2_with (first | (go_at_call 36; (with_reducible refine tr.mono ?_); rintro e w1 ⟨rfl, d1⟩; have D1 := Aside0.mk (below_then AL.out AL.out.size d1); have K1 := Aside0.mk ((d1.block _ LT.out).trans K0.out); clear d1 tr) | (go_at_call 37; (with_reducible refine (newInt0_calls _).mono ?_); rintro e w2 ⟨b2, rfl, q2, d2⟩; have D2 := Aside0.mk (below_then D1.out D1.out.size d2); have K2 := Aside0.mk ((d2.block _ (blk_lt K1.out)).trans K1.out); have Q2 := Aside0.mk q2; clear d2 q2) | (go_at_call 38; (with_reducible refine (hc _).mono ?_); rintro e w3 ⟨rfl, d3⟩; have D3 := Aside0.mk (below_then D2.out D2.out.size d3); have K3 := Aside0.mk ((d3.block _ (blk_lt K2.out)).trans K2.out); have Q3 := Aside0.mk (Q2.out.below d3); clear d3 hc) | (go_at_call 39; (with_reducible refine (sf _).mono ?_); rintro e w4 ⟨rfl, d4⟩; have D4 := Aside0.mk (below_then D3.out D3.out.size d4); have K4 := Aside0.mk ((d4.block _ (blk_lt K3.out)).trans K3.out); clear d4 sf) | (go_at_call 40; (with_reducible refine (cv _ D4.out).mono ?_); rintro e w5 ⟨a5, rfl, d5⟩; have D5 := Aside0.mk (below_then D4.out D4.out.size d5); have K5 := Aside0.mk ((d5.block _ (blk_lt K4.out)).trans K4.out); have p0 := blk_cell K5.out 0; have p1 := blk_cell K5.out 1; have p2 := blk_cell K5.out 2; have f0 := Lib.frozen_of_heap K5.out 0; have f1 := Lib.frozen_of_heap K5.out 1; have f2 := Lib.frozen_of_heap K5.out 2; have lt0 := blk_lt K5.out; clear d5 cv))
      have FN := dv_bad K5.out D5.out (Nat.le_refl _)
      exact bodyPost_ret (dv_end (.pointer none) (.string ⟨#[]⟩) (.string ⟨#[]⟩) (errv a5) rfl rfl FN.2) rfl ⟨FN.1, .inr ⟨RE.out, a5, rfl⟩⟩
    | some z =>
      have cv := fun (w' : World) (hb' : Below w.heap.size w w') => conv_some (bs (Cut.upTo 58 t)) w' z (by rw [bs_size]; exact ul) (HL.out.below hb').err (by rw [bs_toList]; exact hp)
      have HP := Aside0.mk (show Deb.dvp t = some (z, Deb.urv (t.drop ((Cut.upTo 58 t).length + 1))) by unfold Deb.dvp; rw [if_pos CL.out, hp]; rfl)
      clear h58 hp ul lt
      generalize Cut.upTo 58 t = up at *
      generalize t.drop (up.length + 1) = rs at *
      go_enter Tryz.func17, Tryz.ntmps17
      have hy := fun w' => zzHas_calls (rs) 45 (by omega) w'
      cases hcl : Deb.cutLast 45 (rs) with
      | none =>
        rw [(Deb.cutLast_none 45 _).1 hcl] at hy
        have RE := Aside0.mk (show Deb.dvp t = some (z, rs, [48]) by rw [HP.out]; unfold Deb.urv; rw [hcl]; rfl)
        clear hcl CL
        go_wp2_with (first | (go_at_call 36; (with_reducible refine tr.mono ?_); rintro e w1 ⟨rfl, d1⟩; have D1 := Aside0.mk (below_then AL.out AL.out.size d1); have K1 := Aside0.mk ((d1.block _ LT.out).trans K0.out); clear d1 tr) | (go_at_call 37; (with_reducible refine (newInt0_calls _).mono ?_); rintro e w2 ⟨b2, rfl, q2, d2⟩; have D2 := Aside0.mk (below_then D1.out D1.out.size d2); have K2 := Aside0.mk ((d2.block _ (blk_lt K1.out)).trans K1.out); have Q2 := Aside0.mk q2; clear d2 q2) | (go_at_call 38; (with_reducible refine (hc _).mono ?_); rintro e w3 ⟨rfl, d3⟩; have D3 := Aside0.mk (below_then D2.out D2.out.size d3); have K3 := Aside0.mk ((d3.block _ (blk_lt K2.out)).trans K2.out); have Q3 := Aside0.mk (Q2.out.below d3); clear d3 hc) | (go_at_call 39; (with_reducible refine (sf _).mono ?_); rintro e w4 ⟨rfl, d4⟩; have D4 := Aside0.mk (below_then D3.out D3.out.size d4); have K4 := Aside0.mk ((d4.block _ (blk_lt K3.out)).trans K3.out); clear d4 sf) | (go_at_call 40; (with_reducible refine (cv _ D4.out).mono ?_); rintro e w5 ⟨b5, rfl, q5, d5⟩; have D5 := Aside0.mk (below_then D4.out D4.out.size d5); have K5 := Aside0.mk ((d5.block _ (blk_lt K4.out)).trans K4.out); have Q5 := Aside0.mk q5; clear d5 q5 cv) | (go_at_call 38; (with_reducible refine (hy _).mono ?_); rintro e w6 ⟨rfl, d6⟩; have D6 := Aside0.mk (below_then D5.out D5.out.size d6); have K6 := Aside0.mk ((d6.block _ (blk_lt K5.out)).trans K5.out); have Q6 := Aside0.mk (Q5.out.below d6); have p0 := blk_cell K6.out 0; have p1 := blk_cell K6.out 1; have p2 := blk_cell K6.out 2; have f0 := Lib.frozen_of_heap K6.out 0; have f1 := Lib.frozen_of_heap K6.out 1; have f2 := Lib.frozen_of_heap K6.out 2; have lt0 := blk_lt K6.out; clear d6 hy))
        have FN := dv_fin (rs) ([48]) Q6.out K6.out D6.out (Nat.le_refl _)
        exact bodyPost_ret (dv_end (.pointer (some ⟨_, 0, none⟩)) (.string (bs (rs))) (.string (bs ([48]))) .nilIface rfl rfl FN.2.2) rfl ⟨FN.2.1, .inl ⟨(z, rs, [48]), _, RE.out, rfl, FN.1⟩⟩
      | some uv =>
        obtain ⟨u, v⟩ := uv
        have sl := fun w' => splitLast_calls (rs) u v 45 (by omega) hcl w'
        have an : (rs).any (fun x => x == 45) = true := by
          cases ha : (rs).any (fun x => x == 45) with
          | true => rfl
          | false => rw [(Deb.cutLast_none 45 _).2 ha] at hcl; exact absurd hcl (by simp)
        rw [an] at hy
        have RE := Aside0.mk (show Deb.dvp t = some (z, u, v) by rw [HP.out]; unfold Deb.urv; rw [hcl]; rfl)
        clear hcl an CL
        go_wp2_with (first | (go_at_call 36; (with_reducible refine tr.mono ?_); rintro e w1 ⟨rfl, d1⟩; have D1 := Aside0.mk (below_then AL.out AL.out.size d1); have K1 := Aside0.mk ((d1.block _ LT.out).trans K0.out); clear d1 tr) | (go_at_call 37; (with_reducible refine (newInt0_calls _).mono ?_); rintro e w2 ⟨b2, rfl, q2, d2⟩; have D2 := Aside0.mk (below_then D1.out D1.out.size d2); have K2 := Aside0.mk ((d2.block _ (blk_lt K1.out)).trans K1.out); have Q2 := Aside0.mk q2; clear d2 q2) | (go_at_call 38; (with_reducible refine (hc _).mono ?_); rintro e w3 ⟨rfl, d3⟩; have D3 := Aside0.mk (below_then D2.out D2.out.size d3); have K3 := Aside0.mk ((d3.block _ (blk_lt K2.out)).trans K2.out); have Q3 := Aside0.mk (Q2.out.below d3); clear d3 hc) | (go_at_call 39; (with_reducible refine (sf _).mono ?_); rintro e w4 ⟨rfl, d4⟩; have D4 := Aside0.mk (below_then D3.out D3.out.size d4); have K4 := Aside0.mk ((d4.block _ (blk_lt K3.out)).trans K3.out); clear d4 sf) | (go_at_call 40; (with_reducible refine (cv _ D4.out).mono ?_); rintro e w5 ⟨b5, rfl, q5, d5⟩; have D5 := Aside0.mk (below_then D4.out D4.out.size d5); have K5 := Aside0.mk ((d5.block _ (blk_lt K4.out)).trans K4.out); have Q5 := Aside0.mk q5; clear d5 q5 cv) | (go_at_call 38; (with_reducible refine (hy _).mono ?_); rintro e w6 ⟨rfl, d6⟩; have D6 := Aside0.mk (below_then D5.out D5.out.size d6); have K6 := Aside0.mk ((d6.block _ (blk_lt K5.out)).trans K5.out); have Q6 := Aside0.mk (Q5.out.below d6); clear d6 hy) | (go_at_call 39; (with_reducible refine (sl _).mono ?_); rintro e w7 ⟨rfl, d7⟩; have D7 := Aside0.mk (below_then D6.out D6.out.size d7); have K7 := Aside0.mk ((d7.block _ (blk_lt K6.out)).trans K6.out); have Q7 := Aside0.mk (Q6.out.below d7); have p0 := blk_cell K7.out 0; have p1 := blk_cell K7.out 1; have p2 := blk_cell K7.out 2; have f0 := Lib.frozen_of_heap K7.out 0; have f1 := Lib.frozen_of_heap K7.out 1; have f2 := Lib.frozen_of_heap K7.out 2; have lt0 := blk_lt K7.out; clear d7 sl))
        have FN := dv_fin (u) (v) Q7.out K7.out D7.out (Nat.le_refl _)
        exact bodyPost_ret (dv_end (.pointer (some ⟨_, 0, none⟩)) (.string (bs (u))) (.string (bs (v))) .nilIface rfl rfl FN.2.2) rfl ⟨FN.2.1, .inl ⟨(z, u, v), _, RE.out, rfl, FN.1⟩⟩
end Go.Proofs.YtnbpoplomdocjaaGreatDoor.Giv
/- Contracts by hand: how two versions of Debian compare, by both roads' first: impl.DebianCompare. -/
namespace Go.Proofs.YtnbpoplomdocjaaGreatDoor.Giv
open Go.RowKit Go.Proofs.YtnbpoplomdocjaaGreatDoorW.PrintWords Go.Proofs.YtnbpoplomdocjaaGreatDoorW.PrintLast Go.Proofs.YtnbpoplomdocjaaGreatDoor.Pk Go.Proofs.YtnbpoplomdocjaaGreatDoor.Ord
set_option linter.unusedVariables false
set_option linter.unusedSimpArgs false

/-- Two versions compared as the program does. -/
def dvA (p q : Int × List UInt8 × List UInt8) : Int := if cI p.1 q.1 = 0 then (if dcA p.2.1 q.2.1 = 0 then dcA p.2.2 q.2.2 else dcA p.2.1 q.2.1) else cI p.1 q.1
set_option maxRecDepth 100000 in
set_option maxHeartbeats 4000000 in
theorem dvCompare_calls (b1 b2 : Nat) (p q : Int × List UInt8 × List UInt8) (w : World) (h1 : IsBig w b1 p.1) (h2 : IsBig w b2 q.1) (o1 : (p.2.1).length ≤ 40000) (o2 : (p.2.2).length ≤ 40000) (o3 : (q.2.1).length ≤ 40000) (o4 : (q.2.2).length ≤ 40000) (hL : Laid w) :
    Calls Tryz.prog 41 #[.agg #[.pointer (some ⟨b1, 0, none⟩), .string (bs p.2.1), .string (bs p.2.2)], .agg #[.pointer (some ⟨b2, 0, none⟩), .string (bs q.2.1), .string (bs q.2.2)]] w fun e w' => e = .returned (.tuple #[.int .i64 (dvA p q), .nilIface]) ∧ Below w.heap.size w w' := by
  have cmE := fun (w' : World) (hb' : Below w.heap.size w w') => Cmp_calls p.1 q.1 b1 b2 w' (h1.below hb') (h2.below hb')
  have cu := fun (w' : World) (hb' : Below w.heap.size w w') => debComp_calls p.2.1 q.2.1 w' o1 o3 (hL.below hb')
  have cr := fun (w' : World) (hb' : Below w.heap.size w w') => debComp_calls p.2.2 q.2.2 w' o2 o4 (hL.below hb')
  have CE := Aside0.mk (show dvA p q = if cI p.1 q.1 = 0 then (if dcA p.2.1 q.2.1 = 0 then dcA p.2.2 q.2.2 else dcA p.2.1 q.2.1) else cI p.1 q.1 from rfl)
  clear h1 h2 o1 o2 o3 o4 hL
  generalize dvA p q = r at *
  generalize cI p.1 q.1 = c1 at *
  generalize dcA p.2.1 q.2.1 = c2 at *
  generalize dcA p.2.2 q.2.2 = c3 at *
  generalize bs p.2.1 = pu at *
  generalize bs p.2.2 = pr at *
  generalize bs q.2.1 = qu at *
  generalize bs q.2.2 = qr at *
  have b1' := below_alloc (Below.refl w.heap.size w) (Obj.cells #[.pointer (some ⟨b1, 0, none⟩), .string pu, .string pr] 38)
  have b2' := below_alloc b1' (Obj.cells #[.pointer (some ⟨b2, 0, none⟩), .string qu, .string qr] 38)
  have B2 := Aside0.mk b2'
  have k0 := blk_new w (Obj.cells #[.pointer (some ⟨b1, 0, none⟩), .string pu, .string pr] 38)
  have k1 : ((w.alloc (Obj.cells #[.pointer (some ⟨b1, 0, none⟩), .string pu, .string pr] 38)).alloc (Obj.cells #[.pointer (some ⟨b2, 0, none⟩), .string qu, .string qr] 38)).heap[w.heap.size]? = some (Obj.cells #[.pointer (some ⟨b1, 0, none⟩), .string pu, .string pr] 38) := blk_alloc k0 _
  have m1 : ((w.alloc (Obj.cells #[.pointer (some ⟨b1, 0, none⟩), .string pu, .string pr] 38)).alloc (Obj.cells #[.pointer (some ⟨b2, 0, none⟩), .string qu, .string qr] 38)).heap[w.heap.size + 1]? = some (Obj.cells #[.pointer (some ⟨b2, 0, none⟩), .string qu, .string qr] 38) := by
    have := blk_new (w.alloc (Obj.cells #[.pointer (some ⟨b1, 0, none⟩), .string pu, .string pr] 38)) (Obj.cells #[.pointer (some ⟨b2, 0, none⟩), .string qu, .string qr] 38)
    simpa using this
  have K1 := Aside0.mk k1
  have M1 := Aside0.mk m1
  clear b1' b2' k0 k1 m1
  by_cases h1 : c1 = 0
  · subst h1
    by_cases h2 : c2 = 0
    · subst h2
      by_cases h3 : c3 = 0
      · subst h3
        have RV := Aside0.mk (show r = 0 by rw [CE.out, if_pos rfl, if_pos rfl])
        clear CE
        go_enter Tryz.func41, Tryz.ntmps41
        go_wp2_with (first | (go_at_call 78; (with_reducible refine (cmE _ B2.out).mono ?_); rintro e w1 ⟨rfl, d1⟩; have D1 := Aside0.mk (below_then B2.out B2.out.size d1.below); have K2 := Aside0.mk ((d1.below.block _ (blk_lt K1.out)).trans K1.out); have M2 := Aside0.mk ((d1.below.block _ (blk_lt M1.out)).trans M1.out); have q0 := blk_cell K2.out 1; have q1 := blk_cell M2.out 1; clear d1 cmE) | (go_at_call 79; (with_reducible refine (cu _ D1.out).mono ?_); rintro e w2 ⟨rfl, d2⟩; have D2 := Aside0.mk (below_then D1.out D1.out.size d2); have K3 := Aside0.mk ((d2.block _ (blk_lt K2.out)).trans K2.out); have M3 := Aside0.mk ((d2.block _ (blk_lt M2.out)).trans M2.out); have q2 := blk_cell K3.out 2; have q3 := blk_cell M3.out 2; clear d2 cu) | (go_at_call 79; (with_reducible refine (cr _ D2.out).mono ?_); rintro e w3 ⟨rfl, d3⟩; have D3 := Aside0.mk (below_then D2.out D2.out.size d3); clear d3 cr))
        exact bodyPost_ret (results_list (rs := [.tmp 4, .tmp 5]) rfl (by simp) (.tmp (.tmp .nil))) rfl ⟨by rw [RV.out]; rfl, D3.out⟩
      · have RV := Aside0.mk (show r = c3 by rw [CE.out, if_pos rfl, if_pos rfl])
        have nz : (c3 != 0) = true := bne_iff_ne.2 h3
        clear CE h3
        go_enter Tryz.func41, Tryz.ntmps41
        go_wp2_with (first | (go_at_call 78; (with_reducible refine (cmE _ B2.out).mono ?_); rintro e w1 ⟨rfl, d1⟩; have D1 := Aside0.mk (below_then B2.out B2.out.size d1.below); have K2 := Aside0.mk ((d1.below.block _ (blk_lt K1.out)).trans K1.out); have M2 := Aside0.mk ((d1.below.block _ (blk_lt M1.out)).trans M1.out); have q0 := blk_cell K2.out 1; have q1 := blk_cell M2.out 1; clear d1 cmE) | (go_at_call 79; (with_reducible refine (cu _ D1.out).mono ?_); rintro e w2 ⟨rfl, d2⟩; have D2 := Aside0.mk (below_then D1.out D1.out.size d2); have K3 := Aside0.mk ((d2.block _ (blk_lt K2.out)).trans K2.out); have M3 := Aside0.mk ((d2.block _ (blk_lt M2.out)).trans M2.out); have q2 := blk_cell K3.out 2; have q3 := blk_cell M3.out 2; clear d2 cu) | (go_at_call 79; (with_reducible refine (cr _ D2.out).mono ?_); rintro e w3 ⟨rfl, d3⟩; have D3 := Aside0.mk (below_then D2.out D2.out.size d3); clear d3 cr))
        exact bodyPost_ret (results_list (rs := [.tmp 4, .tmp 5]) rfl (by simp) (.tmp (.tmp .nil))) rfl ⟨by rw [RV.out]; rfl, D3.out⟩
    · have RV := Aside0.mk (show r = c2 by rw [CE.out, if_pos rfl, if_neg h2])
      have nz : (c2 != 0) = true := bne_iff_ne.2 h2
      clear CE h2
      go_enter Tryz.func41, Tryz.ntmps41
      go_wp2_with (first | (go_at_call 78; (with_reducible refine (cmE _ B2.out).mono ?_); rintro e w1 ⟨rfl, d1⟩; have D1 := Aside0.mk (below_then B2.out B2.out.size d1.below); have K2 := Aside0.mk ((d1.below.block _ (blk_lt K1.out)).trans K1.out); have M2 := Aside0.mk ((d1.below.block _ (blk_lt M1.out)).trans M1.out); have q0 := blk_cell K2.out 1; have q1 := blk_cell M2.out 1; clear d1 cmE) | (go_at_call 79; (with_reducible refine (cu _ D1.out).mono ?_); rintro e w2 ⟨rfl, d2⟩; have D2 := Aside0.mk (below_then D1.out D1.out.size d2); have K3 := Aside0.mk ((d2.block _ (blk_lt K2.out)).trans K2.out); have M3 := Aside0.mk ((d2.block _ (blk_lt M2.out)).trans M2.out); have q2 := blk_cell K3.out 2; have q3 := blk_cell M3.out 2; clear d2 cu))
      exact bodyPost_ret (results_list (rs := [.tmp 4, .tmp 5]) rfl (by simp) (.tmp (.tmp .nil))) rfl ⟨by rw [RV.out]; rfl, D2.out⟩
  · have RV := Aside0.mk (show r = c1 by rw [CE.out, if_neg h1])
    have nz : (c1 != 0) = true := bne_iff_ne.2 h1
    clear CE h1
    go_enter Tryz.func41, Tryz.ntmps41
    go_wp2_with (first | (go_at_call 78; (with_reducible refine (cmE _ B2.out).mono ?_); rintro e w1 ⟨rfl, d1⟩; have D1 := Aside0.mk (below_then B2.out B2.out.size d1.below); have K2 := Aside0.mk ((d1.below.block _ (blk_lt K1.out)).trans K1.out); have M2 := Aside0.mk ((d1.below.block _ (blk_lt M1.out)).trans M1.out); have q0 := blk_cell K2.out 1; have q1 := blk_cell M2.out 1; clear d1 cmE))
    exact bodyPost_ret (results_list (rs := [.tmp 4, .tmp 5]) rfl (by simp) (.tmp (.tmp .nil))) rfl ⟨by rw [RV.out]; rfl, D1.out⟩
set_option maxRecDepth 100000 in
set_option maxHeartbeats 1000000 in
theorem dvIface_calls (x1 x2 : Option Addr) (y1 y2 z1 z2 : ByteArray) (r : Int) (w : World) (c : ∀ w', Below w.heap.size w w' → Calls Tryz.prog 41 #[.agg #[.pointer x1, .string y1, .string z1], .agg #[.pointer x2, .string y2, .string z2]] w' fun e w'' => e = .returned (.tuple #[.int .i64 r, .nilIface]) ∧ Below w'.heap.size w' w'') :
    Calls Tryz.prog 18 #[.agg #[.pointer x1, .string y1, .string z1], .iface 38 (.agg #[.pointer x2, .string y2, .string z2])] w fun e w' => e = .returned (.tuple #[.int .i64 r, .nilIface]) ∧ Below w.heap.size w w' := by
  have hta := fun v w => run_assert_is Tryz.underlying38 30 v w
  have h1 := (Below.refl w.heap.size w).alloc (Nat.le_refl _) (Obj.cells #[.pointer x1, .string y1, .string z1] 38)
  have h2 := h1.alloc h1.size (Obj.cells #[.pointer x2, .string y2, .string z2] 38)
  have c' := c _ h2
  have H2 := Aside0.mk h2
  clear h1 h2 c
  go_enter Tryz.func18, Tryz.ntmps18
  go_wp2_with (first | (go_at_call 41; refine c'.mono ?_; rintro e w1 ⟨rfl, hb1⟩))
  go_ret2
  exact ⟨rfl, H2.out.trans (hb1.mono H2.out.size)⟩
theorem parseDeb_ok (l : List UInt8) (h : (l).length ≤ 40000) (p : Int × List UInt8 × List UInt8) (hp : dvL l = some p) (w : World) (hL : LaidD w) :
    Calls Tryz.prog 17 #[.string (bs l)] w fun e w' => ∃ b : Nat, e = .returned (.tuple #[.agg #[.pointer (some ⟨b, 0, none⟩), .string (bs p.2.1), .string (bs p.2.2)], .nilIface]) ∧ IsBig w' b p.1 ∧ Below w.heap.size w w' := by
  refine (parseDeb_calls l h w hL).mono ?_
  rintro e w' ⟨hb, ⟨q, b, e1, rfl, hi⟩ | ⟨e1, _⟩⟩
  · rw [hp] at e1
    obtain rfl := Option.some.inj e1
    exact ⟨b, rfl, hi, hb⟩
  · rw [hp] at e1
    exact absurd e1 (by simp)
theorem parseDeb_err (l : List UInt8) (h : (l).length ≤ 40000) (hp : dvL l = none) (w : World) (hL : LaidD w) :
    Calls Tryz.prog 17 #[.string (bs l)] w fun e w' => ∃ a, e = .returned (.tuple #[.agg #[.pointer none, .string ⟨#[]⟩, .string ⟨#[]⟩], errv a]) ∧ Below w.heap.size w w' := by
  refine (parseDeb_calls l h w hL).mono ?_
  rintro e w' ⟨hb, ⟨q, b, e1, _⟩ | ⟨_, a, rfl⟩⟩
  · rw [hp] at e1
    exact absurd e1 (by simp)
  · exact ⟨a, rfl, hb⟩
theorem len_urv {t : List UInt8} (h : t.length ≤ 40000) : (Deb.urv t).1.length ≤ 40000 ∧ (Deb.urv t).2.length ≤ 40000 := by
  unfold Deb.urv
  cases hc : Deb.cutLast 45 t with
  | none => exact ⟨h, show ([48] : List UInt8).length ≤ 40000 by decide⟩
  | some p =>
    obtain ⟨u, v⟩ := p
    have e := (Deb.cutLast_some 45 hc).1
    rw [e, List.length_append, List.length_cons] at h
    exact ⟨show u.length ≤ 40000 by omega, show v.length ≤ 40000 by omega⟩
theorem len_dvL {l : List UInt8} (h : l.length ≤ 40000) {p : Int × List UInt8 × List UInt8} (hp : dvL l = some p) : p.2.1.length ≤ 40000 ∧ p.2.2.length ≤ 40000 := by
  unfold dvL Deb.dvp at hp
  have ht := Nat.le_trans (dtU_len l) h
  split at hp
  · obtain ⟨z, _, rfl⟩ := Option.map_eq_some_iff.1 hp
    exact len_urv (len_sub ht (List.drop_sublist _ _))
  · obtain rfl := Option.some.inj hp
    exact len_urv ht
set_option maxRecDepth 100000 in
set_option maxHeartbeats 2000000 in
theorem id_aerr (a b : List UInt8) (w : World) (ha : (a).length ≤ 40000) (hp : dvL a = none) (hL : LaidD w) :
    Calls Tryz.prog 7 #[.string (bs a), .string (bs b)] w fun e w' => e = .returned (.tuple #[.int .i64 0, .bool false]) ∧ Below w.heap.size w w' := by
  have p1 := parseDeb_err a ha hp w hL
  clear hL ha hp
  go_enter Tryz.func7, Tryz.ntmps7
  go_wp2_with (first | (go_at_call 17; (with_reducible refine p1.mono ?_); rintro e w1 ⟨a, rfl, d1⟩; have D1 := Aside0.mk d1; clear d1 p1))
  go_ret2
  exact ⟨rfl, below_alloc D1.out _⟩
set_option maxRecDepth 100000 in
set_option maxHeartbeats 2000000 in
theorem id_berr (a b : List UInt8) (p : Int × List UInt8 × List UInt8) (w : World) (ha : (a).length ≤ 40000) (hb : (b).length ≤ 40000) (hp : dvL a = some p) (hq : dvL b = none) (hL : LaidD w) :
    Calls Tryz.prog 7 #[.string (bs a), .string (bs b)] w fun e w' => e = .returned (.tuple #[.int .i64 0, .bool false]) ∧ Below w.heap.size w w' := by
  have p1 := parseDeb_ok a ha p hp w hL
  have p2 := fun (w' : World) (h : Below w.heap.size w w') => parseDeb_err b hb hq w' (hL.below h)
  clear hL ha hb hp hq
  generalize bs p.2.1 = pu at *
  generalize bs p.2.2 = pr at *
  go_enter Tryz.func7, Tryz.ntmps7
  go_wp2_with (first | (go_at_call 17; (with_reducible refine p1.mono ?_); rintro e w1 ⟨b1, rfl, r1, d1⟩; have D1 := Aside0.mk d1; clear d1 r1 p1) | (go_at_call 17; (with_reducible refine (p2 _ (below_alloc D1.out _)).mono ?_); rintro e w2 ⟨a, rfl, d2⟩; have D2 := Aside0.mk (below_then (below_alloc D1.out _) (below_alloc D1.out _).size d2); clear d2 p2))
  go_ret2
  exact ⟨rfl, below_alloc D2.out _⟩
set_option maxRecDepth 100000 in
set_option maxHeartbeats 4000000 in
theorem id_ok (a b : List UInt8) (p q : Int × List UInt8 × List UInt8) (w : World) (ha : (a).length ≤ 40000) (hb : (b).length ≤ 40000) (hp : dvL a = some p) (hq : dvL b = some q) (hL : LaidD w) :
    Calls Tryz.prog 7 #[.string (bs a), .string (bs b)] w fun e w' => e = .returned (.tuple #[.int .i64 (dvA p q), .bool true]) ∧ Below w.heap.size w w' := by
  have p1 := parseDeb_ok a ha p hp w hL
  have p2 := fun (w' : World) (h : Below w.heap.size w w') => parseDeb_ok b hb q hq w' (hL.below h)
  have o1 := len_dvL ha hp
  have o2 := len_dvL hb hq
  have ci := fun (w' : World) (b1 b2 : Nat) (h1 : IsBig w' b1 p.1) (h2 : IsBig w' b2 q.1) (h3 : Below w.heap.size w w') => dvIface_calls (some ⟨b1, 0, none⟩) (some ⟨b2, 0, none⟩) (bs p.2.1) (bs q.2.1) (bs p.2.2) (bs q.2.2) (dvA p q) w' (fun w3 hb3 => dvCompare_calls b1 b2 p q w3 (h1.below hb3) (h2.below hb3) o1.1 o1.2 o2.1 o2.2 (((hL.below h3).below hb3).err))
  have hmi : ∀ x w, (Instr.makeInterface 38 x).run Tryz.prog w = .ok (.iface 38 x) w := fun x w => run_makeInterface w 38 x (by kernel_rfl)
  have hnn := fun w => run_nil_nil Tryz.underlying33 w
  clear hL ha hb hp hq o1 o2
  generalize dvA p q = r at *
  generalize bs p.2.1 = pu at *
  generalize bs p.2.2 = pr at *
  generalize bs q.2.1 = qu at *
  generalize bs q.2.2 = qr at *
  go_enter Tryz.func7, Tryz.ntmps7
  go_wp2_with (first | (go_at_call 17; (with_reducible refine p1.mono ?_); rintro e w1 ⟨b1, rfl, r1, d1⟩; have D1 := Aside0.mk d1; have K1 := Aside0.mk (blk_new w1 (Obj.cells #[.pointer (some ⟨b1, 0, none⟩), .string pu, .string pr] 38)); have R1 := Aside0.mk r1; clear d1 r1 p1) | (go_at_call 17; (with_reducible refine (p2 _ (below_alloc D1.out _)).mono ?_); rintro e w2 ⟨b2, rfl, r2, d2⟩; have D2 := Aside0.mk (below_then (below_alloc D1.out _) (below_alloc D1.out _).size d2); have K2 := Aside0.mk ((d2.block _ (blk_lt K1.out)).trans K1.out); have q0 := blk_cell K2.out 0; have q1 := blk_cell K2.out 1; have q2 := blk_cell K2.out 2; have lt0 := blk_lt K2.out; have R2 := Aside0.mk r2; have R12 := Aside0.mk ((R1.out.below (below_alloc (Below.refl _ _) (Obj.cells #[.pointer (some ⟨b1, 0, none⟩), .string pu, .string pr] 38))).below d2); clear d2 r2 p2) | (go_at_call 18; (with_reducible refine (ci _ _ _ (R12.out.below (below_alloc (Below.refl _ _) _)) (R2.out.below (below_alloc (Below.refl _ _) _)) (below_alloc D2.out _)).mono ?_); rintro e w3 ⟨rfl, d3⟩; have D3 := Aside0.mk (below_then (below_alloc D2.out _) (below_alloc D2.out _).size d3); clear d3))
  go_quiet (fail)
  go_wp2_with fail
  go_ret2
  exact ⟨rfl, bel_drewN D3.out _⟩
/-- What the thin package answers of two versions. -/
def impl_DebianCompare.f (a0 a1 : ByteArray) : Option (Int × Bool) := if a0.toList.length ≤ 40000 ∧ a1.toList.length ≤ 40000 then (match dvL a0.toList, dvL a1.toList with | some p, some q => some (dvA p q, true) | _, _ => some (0, false)) else none
theorem impl_DebianCompare.calls (a0 a1 : ByteArray) (r : Int) (s : Bool) (w : World) (h : impl_DebianCompare.f a0 a1 = some (r, s)) (hL : LaidD w) :
    Calls Tryz.prog 7 #[.string a0, .string a1] w fun e w' => e = .returned (.tuple #[.int .i64 r, .bool s]) ∧ Below w.heap.size w w' := by
  unfold impl_DebianCompare.f at h
  split at h
  · next hc =>
    have key : ∀ v, (match dvL a0.toList, dvL a1.toList with | some p, some q => some (dvA p q, true) | _, _ => some (0, false)) = some v → Calls Tryz.prog 7 #[.string (bs a0.toList), .string (bs a1.toList)] w fun e w' => e = .returned (.tuple #[.int .i64 v.1, .bool v.2]) ∧ Below w.heap.size w w' := by
      intro v hv
      cases h0 : dvL a0.toList with
      | none =>
        rw [h0] at hv
        obtain rfl := Option.some.inj hv
        exact id_aerr _ _ w hc.1 h0 hL
      | some p =>
        cases h1 : dvL a1.toList with
        | none =>
          rw [h0, h1] at hv
          obtain rfl := Option.some.inj hv
          exact id_berr _ _ p w hc.1 hc.2 h0 h1 hL
        | some q =>
          rw [h0, h1] at hv
          obtain rfl := Option.some.inj hv
          exact id_ok _ _ p q w hc.1 hc.2 h0 h1 hL
    have := key _ h
    rwa [← bs_of, ← bs_of] at this
  · exact absurd h (by simp)
end Go.Proofs.YtnbpoplomdocjaaGreatDoor.Giv
/- Contract by hand in the print's form: impl.DebianParts. The errors are laid. -/
namespace Go.Proofs.YtnbpoplomdocjaaGreatDoor.Giv
open Go.RowKit Go.Proofs.YtnbpoplomdocjaaGreatDoorW.PrintWords Go.Proofs.YtnbpoplomdocjaaGreatDoorW.PrintLast Go.Proofs.YtnbpoplomdocjaaGreatDoor.Pk Go.Proofs.YtnbpoplomdocjaaGreatDoor.Ord
set_option linter.unusedVariables false
set_option linter.unusedSimpArgs false
theorem zzDebParts_calls (a b : List UInt8) (w : World) (ha : a.length ≤ 40000) (hb : b.length ≤ 40000) (hL : Laid w) :
    Calls Tryz.prog 52 #[.string (bs a), .string (bs b)] w fun e w' => e = .returned (.tuple #[.int .i64 (dcA a b), .nilIface]) ∧ Below w.heap.size w w' := by
  have c := debComp_calls a b w ha hb hL
  clear ha hb hL
  go_enter Tryz.func52, Tryz.ntmps52
  go_wp2_with (first | (go_at_call 79; (with_reducible refine c.mono ?_); rintro e w1 ⟨rfl, d1⟩))
  exact bodyPost_ret (results_list (rs := [.tmp 4, .tmp 5]) rfl (by simp) (.tmp (.tmp .nil))) rfl ⟨rfl, d1⟩
theorem implDebParts_calls (a b : List UInt8) (w : World) (ha : a.length ≤ 40000) (hb : b.length ≤ 40000) (hL : Laid w) :
    Calls Tryz.prog 25 #[.string (bs a), .string (bs b)] w fun e w' => e = .returned (.tuple #[.int .i64 (dcA a b), .bool true]) ∧ Below w.heap.size w w' := by
  have c := zzDebParts_calls a b w ha hb hL
  clear ha hb hL
  go_enter Tryz.func25, Tryz.ntmps25
  go_wp2_with (first | (go_at_call 52; (with_reducible refine c.mono ?_); rintro e w1 ⟨rfl, d1⟩))
  have D1 := Aside0.mk d1
  clear d1
  go_region
  all_goals
    go_wp2_with fail
    exact bodyPost_ret (results_list (rs := [.tmp 4, .tmp 5]) rfl (by simp) (.tmp (.tmp .nil))) rfl ⟨rfl, Below.drew D1.out⟩
def impl_DebianParts.f (a0 a1 : ByteArray) : Option (Int × Bool) := if a0.toList.length ≤ 40000 ∧ a1.toList.length ≤ 40000 then some (dcA a0.toList a1.toList, true) else none
theorem impl_DebianParts.calls (a0 a1 : ByteArray) (r : Int) (s : Bool) (w : World) (h : impl_DebianParts.f a0 a1 = some (r, s)) (hL : Laid w) :
    Calls Tryz.prog 25 #[.string a0, .string a1] w fun e w' => e = .returned (.tuple #[.int .i64 r, .bool s]) ∧ Below w.heap.size w w' := by
  unfold impl_DebianParts.f at h
  split at h
  · next hc =>
    have h := Option.some.inj h
    injection h with h1 h2
    subst h1 h2
    have := implDebParts_calls a0.toList a1.toList w hc.1 hc.2 hL
    rwa [← bs_of, ← bs_of] at this
  · exact absurd h (by simp)
end Go.Proofs.YtnbpoplomdocjaaGreatDoor.Giv
